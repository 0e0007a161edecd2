import Derived.Test.Qxb6000409aBase
import Derived.Test.Qxb6000409aPlain
import Derived.Test.Qxb6000409aRowMap
import Derived.Deep.LoopGhost
import Derived.Deep.RegionHeld3
import Derived.Deep.DrawnRows
import Derived.Deep.OwnRows
import Derived.RegionTactic
import Derived.BigRegion
import Derived.WalkSmall
namespace Go.Proofs.Qxb6000409a
open Go.RowKit Plain Go.Maps

def NewPost (w : World) (n : Nat) (G P : Nat → ByteArray) (dep : Nat → Nat) (e : Ending) (w' : World) : Prop :=
  ∃ b0 b1 b2 : Nat, e = .returned (.agg #[.map (some b0), .map (some b1), .map (some b2)]) ∧ SMap w' b0 n (parM G P n) ∧ IMap w' b2 n (depM G dep n) ∧ Below w.heap.size w w'

/-- the world while New goes on: the result's block, the three maps, the struct p -/
structure NewInv (w wr : World) (np : Nat) (mp : ByteArray → Option ByteArray) (nc : Nat) (nd : Nat) (md : ByteArray → Option Int) : Prop where
  par : SMap wr (w.heap.size + 1) np mp
  chi : CMap wr (w.heap.size + 1 + 1) nc (w.heap.size + 5) nc
  dep : IMap wr (w.heap.size + 1 + 1 + 1) nd md
  p0 : wr.heap[w.heap.size + 1 + 1 + 1 + 1]? = some (.cells #[.map (some (w.heap.size + 1)), .map (some (w.heap.size + 1 + 1)), .map (some (w.heap.size + 1 + 1 + 1))] 32 (0, 0))
  r0 : wr.heap[w.heap.size]? = some (.cells #[.map none, .map none, .map none] 32 (0, 0))
  bel : Below w.heap.size w wr
  big : w.heap.size + 5 ≤ wr.heap.size

theorem NewInv.start (w : World) : NewInv w (((((w.alloc (.cells #[.map none, .map none, .map none] 32)).alloc (.map #[] 0)).alloc (.map #[] 0)).alloc (.map #[] 0)).alloc (.cells #[.map (some (w.heap.size + 1)), .map (some (w.heap.size + 1 + 1)), .map (some (w.heap.size + 1 + 1 + 1))] 32)) 0 (fun _ => none) 0 0 (fun _ => none) := by
  have s1 : (w.alloc (.cells #[.map none, .map none, .map none] 32)).heap.size = w.heap.size + 1 := by simp
  have s2 : ((w.alloc (.cells #[.map none, .map none, .map none] 32)).alloc (.map #[] 0)).heap.size = w.heap.size + 1 + 1 := by simp
  have s3 : (((w.alloc (.cells #[.map none, .map none, .map none] 32)).alloc (.map #[] 0)).alloc (.map #[] 0)).heap.size = w.heap.size + 1 + 1 + 1 := by simp
  have s4 : ((((w.alloc (.cells #[.map none, .map none, .map none] 32)).alloc (.map #[] 0)).alloc (.map #[] 0)).alloc (.map #[] 0)).heap.size = w.heap.size + 1 + 1 + 1 + 1 := by simp
  obtain ⟨w1, e1⟩ : ∃ w1, w1 = w.alloc (.cells #[.map none, .map none, .map none] 32) := ⟨_, rfl⟩
  obtain ⟨w2, e2⟩ : ∃ w2, w2 = w1.alloc (.map #[] 0) := ⟨_, rfl⟩
  obtain ⟨w3, e3⟩ : ∃ w3, w3 = w2.alloc (.map #[] 0) := ⟨_, rfl⟩
  obtain ⟨w4, e4⟩ : ∃ w4, w4 = w3.alloc (.map #[] 0) := ⟨_, rfl⟩
  rw [← e1, ← e2, ← e3, ← e4] at s4
  rw [← e1, ← e2, ← e3] at s3
  rw [← e1, ← e2] at s2
  rw [← e1] at s1
  rw [← e1, ← e2, ← e3, ← e4]
  have m1 := SMap.made w1
  rw [← e2, s1] at m1
  have m2 := CMap.made w2 (w.heap.size + 5) 0
  rw [← e3, s2] at m2
  have m3 := IMap.made w3
  rw [← e4, s3] at m3
  have k1 : Below w.heap.size w w1 := by rw [e1]; exact (Below.refl _ _).alloc (Nat.le_refl _) _
  have k2 : Below w1.heap.size w1 w2 := by rw [e2]; exact (Below.refl _ _).alloc (Nat.le_refl _) _
  have k3 : Below w2.heap.size w2 w3 := by rw [e3]; exact (Below.refl _ _).alloc (Nat.le_refl _) _
  have k4 : Below w3.heap.size w3 w4 := by rw [e4]; exact (Below.refl _ _).alloc (Nat.le_refl _) _
  obtain ⟨w5, e5⟩ : ∃ w5, w5 = w4.alloc (.cells #[.map (some (w.heap.size + 1)), .map (some (w.heap.size + 1 + 1)), .map (some (w.heap.size + 1 + 1 + 1))] 32) := ⟨_, rfl⟩
  rw [← e5]
  have k5 : Below w4.heap.size w4 w5 := by rw [e5]; exact (Below.refl _ _).alloc (Nat.le_refl _) _
  have b5 : w5.heap[w4.heap.size]? = some (.cells #[.map (some (w.heap.size + 1)), .map (some (w.heap.size + 1 + 1)), .map (some (w.heap.size + 1 + 1 + 1))] 32 (0, 0)) := by rw [e5]; exact heap_alloc_new w4 _
  have b1 : w1.heap[w.heap.size]? = some (.cells #[.map none, .map none, .map none] 32 (0, 0)) := by rw [e1]; exact heap_alloc_new w _
  have z5 : w5.heap.size = w.heap.size + 5 := by rw [e5]; simp; omega
  refine ⟨?_, ?_, ?_, ?_, ?_, ?_, by omega⟩
  · exact ((m1.later k3).later k4).later k5
  · refine (m2.stay (w' := w5) ?_ ?_)
    · rw [k5.block _ (by omega), k4.block _ (by omega)]
    · intro v hv
      refine good_of_block (Nat.le_refl _) (fun g cur h1 h2 => ?_) hv
      have hlt : g < w3.heap.size := (Array.getElem?_eq_some_iff.1 h2).1
      omega
  · exact m3.later k5
  · rw [← s4]; exact b5
  · rw [k5.block _ (by omega), k4.block _ (by omega), k3.block _ (by omega), k2.block _ (by omega)]; exact b1
  · exact (((k1.trans (k2.mono (by omega))).trans (k3.mono (by omega))).trans (k4.mono (by omega))).trans (k5.mono (by omega))

theorem cells_of3 {w : World} {b : Nat} {x y z : Value} (h : w.heap[b]? = some (.cells #[x, y, z] 32 (0, 0))) : w.cell? ⟨b, 0, none⟩ = some x ∧ w.cell? ⟨b, 1, none⟩ = some y ∧ w.cell? ⟨b, 2, none⟩ = some z := by
  simp [World.cell?, h]

/-- p.parent[g] = .. : the map's block alone has turned -/
theorem NewInv.putPar {w wr w' : World} {np nc nd : Nat} {mp mp' : ByteArray → Option ByteArray} {md : ByteArray → Option Int} (I : NewInv w wr np mp nc nd md) (hS : SMap w' (w.heap.size + 1) (np + 1) mp') (hg : wr.drew.grownBy w' (some (w.heap.size + 1))) :
    NewInv w w' (np + 1) mp' nc nd md := by
  have hb : ∀ k, k < wr.heap.size → k ≠ w.heap.size + 1 → w'.heap[k]? = wr.heap[k]? := fun k hk hne => hg.block k hk (by simpa using hne)
  have hz : wr.heap.size ≤ w'.heap.size := hg.size
  have hbig := I.big
  refine ⟨hS, ?_, I.dep.of_block (hb _ I.dep.lt (by omega)), (hb _ (by omega) (by omega)).trans I.p0, (hb _ (by omega) (by omega)).trans I.r0, ?_, by omega⟩
  · refine I.chi.stay (hb _ I.chi.lt (by omega)) fun v hv => good_of_block (Nat.le_refl _) (fun g cur h1 h2 => ⟨cur, ?_, rfl⟩) hv
    rw [hb g (Array.getElem?_eq_some_iff.1 h2).1 (by omega)]
    exact h2
  · exact I.bel.trans ⟨hg.os, hg.tape, hg.output, hg.size, fun k hk => hb k (by have := I.bel.size; omega) (by omega)⟩

theorem NewInv.chiUp {w wr : World} {np nc nd : Nat} {mp : ByteArray → Option ByteArray} {md : ByteArray → Option Int} (I : NewInv w wr np mp nc nd md) : NewInv w wr np mp (nc + 1) nd md := by
  refine ⟨I.par, ?_, I.dep, I.p0, I.r0, I.bel, I.big⟩
  have hc : CMap wr (w.heap.size + 1 + 1) nc (w.heap.size + 5) (nc + 1) := I.chi.stay rfl fun v hv => good_of_block (by omega) (fun g cur _ h2 => ⟨cur, h2, rfl⟩) hv
  obtain ⟨D, h⟩ := hc
  exact ⟨D, h.mono (by omega)⟩

/-- p.children[..] = append(..): the map's block and blocks of its rows have turned -/
theorem NewInv.putChi {w wr w' : World} {np nc nd : Nat} {mp : ByteArray → Option ByteArray} {md : ByteArray → Option Int} (I : NewInv w wr np mp nc nd md) (hC : CMap w' (w.heap.size + 1 + 1) (nc + 1) (w.heap.size + 5) (nc + 1))
    (hb : ∀ j, j < w.heap.size + 5 → j ≠ w.heap.size + 1 + 1 → w'.heap[j]? = wr.heap[j]?) (hbel : Below w.heap.size wr w') : NewInv w w' np mp (nc + 1) nd md := by
  have hz := hbel.size
  have hbig := I.big
  exact ⟨I.par.of_block (hb _ (by omega) (by omega)), hC, I.dep.of_block (hb _ (by omega) (by omega)), (hb _ (by omega) (by omega)).trans I.p0, (hb _ (by omega) (by omega)).trans I.r0, I.bel.trans hbel, by omega⟩

/-- p.depth[g] = .. -/
theorem NewInv.putDep {w wr w' : World} {np nc nd : Nat} {mp : ByteArray → Option ByteArray} {md md' : ByteArray → Option Int} (I : NewInv w wr np mp nc nd md) (hS : IMap w' (w.heap.size + 1 + 1 + 1) (nd + 1) md') (hg : wr.grownBy w' (some (w.heap.size + 1 + 1 + 1))) :
    NewInv w w' np mp nc (nd + 1) md' := by
  have hb : ∀ k, k < wr.heap.size → k ≠ w.heap.size + 1 + 1 + 1 → w'.heap[k]? = wr.heap[k]? := fun k hk hne => hg.block k hk (by simpa using hne)
  have hz : wr.heap.size ≤ w'.heap.size := hg.size
  have hbig := I.big
  refine ⟨I.par.of_block (hb _ I.par.lt (by omega)), ?_, hS, (hb _ (by omega) (by omega)).trans I.p0, (hb _ (by omega) (by omega)).trans I.r0, ?_, by omega⟩
  · refine I.chi.stay (hb _ I.chi.lt (by omega)) fun v hv => good_of_block (Nat.le_refl _) (fun g cur h1 h2 => ⟨cur, ?_, rfl⟩) hv
    rw [hb g (Array.getElem?_eq_some_iff.1 h2).1 (by omega)]
    exact h2
  · exact I.bel.trans ⟨hg.os, hg.tape, hg.output, hg.size, fun k hk => hb k (by have := I.bel.size; omega) (by omega)⟩

theorem empty_iff {s : ByteArray} : s.toList.isEmpty = true ↔ s = ByteArray.empty := by
  rw [List.isEmpty_iff, ByteArray.toList_eq]
  constructor
  · intro h; exact ByteArray.ext (Array.toList_inj.1 h)
  · intro h; rw [h]; rfl

theorem new_cell (w : World) (s : ByteArray) : (w.alloc (.cells #[.string s] 9)).drew.cell? ⟨w.heap.size, 0, none⟩ = some (.string s) :=
  (World.rowIs_alloc w #[Value.string s] 9 (fun _ => .string s) (fun i hi => by
    obtain rfl : i = 0 := by simpa using hi
    rfl)).cell (i := 0) (by show 0 < 1; omega)

theorem step_append_run {P : Program} {ops : Array Oper} {o : Oper} {a : Act} {w : World} {K : Act → World → Prop} {Q : Exit → Act → World → Prop} {E : Prop}
    (hg : o.guard = none) (s x : Operand) (t : TypeId) (hop : o.op = Op.call { callee := Callee.builtin Builtin.append, args := #[s, x], argTypes := #[t, t] })
    (sv xv v' : Value) (w' : World) (hs : a.eval s = sv) (hx : a.eval x = xv) (hrun : (Builtin.append_ #[t, t] o.type #[sv, xv]).run P w = .ok v' w') (hK : K (a.put o.dst v') w') :
    if Region.wanted o (yielded ops a.tmps) = true then Oper.wp P o a w K Q else E := by
  have hw : Region.wanted o (yielded ops a.tmps) = true := by simp [Region.wanted, hg]
  rw [if_pos hw]
  unfold Oper.wp
  simp [execOp, hop, resolve, invoke, builtin, hs, hx, hrun, Result.andThen]
  exact hK

set_option maxRecDepth 20000 in
set_option maxHeartbeats 2000000 in
theorem new_any (a a' : Option Addr) (n c c' : Nat) (G P : Nat → ByteArray) (pf : Nat → Int) (dep : Nat → Nat) (w : World) (hn : n ≤ 256) (hG : ∀ j, (G j).size ≤ maxLen) (hP : ∀ j, (P j).size ≤ maxLen) (hs : SSeg w a n G) (hs' : SSeg w a' n P) (T : Tree n G P pf dep) :
    Calls Try.prog 13 #[.slice a n c, .slice a' n c'] w (NewPost w n G P dep) := by
  have hmm := @run_makeMap Try.prog
  have HT : Hid (Tree n G P pf dep) := T
  clear T
  have hst := NewInv.start w
  go_enter Try.func13, Try.ntmps13
  go_wp2
  go_loopg [18] n (fun gk iv wr => ∃ k : Nat, k + gk = n ∧ iv = .int .i64 k ∧ NewInv w wr k (parM G P k) k 0 (fun _ => none))
  case atStart => exact ⟨0, by omega, rfl, hst⟩
  case round =>
    clear hst hmm
    obtain ⟨k, hk, rfl, I⟩ := hrel
    by_cases hlt : k < n
    · obtain ⟨b, off, rfl, hcs⟩ := (hs.later I.bel).at hlt
      obtain ⟨b', off', rfl, hcs'⟩ := (hs'.later I.bel).at hlt
      have hbl : b' < w.heap.size := by
        obtain ⟨b3, off3, e3, hcs3⟩ := hs'.at hlt
        obtain ⟨rfl, rfl⟩ : b' = b3 ∧ off' = off3 := by simpa using e3
        exact World.block_lt_of_cell? _ _ (hcs3 k hlt)
      have hcg := hcs k hlt
      have hcp := hcs' k hlt
      clear hcs hcs'
      obtain ⟨q0, q1, q2⟩ := cells_of3 I.p0
      obtain ⟨W2, hup, hS2, hg2⟩ := (show SMap wr.drew _ _ _ from I.par).put (by unfold maxLen; omega) (hG k) (hP k)
      have hki : (k : Int) < (n : Int) := by omega
      go_wp2
      go_region
      have I2 : NewInv w W2 (k + 1) (parM G P (k + 1)) k 0 (fun _ => none) := I.putPar hS2 hg2
      clear hup hS2 hg2 I q0 q1 q2 hcg hcp
      obtain ⟨b2, off2, e2, hcs⟩ := (hs.later I2.bel).at hlt
      obtain ⟨rfl, rfl⟩ : b = b2 ∧ off = off2 := by simpa using e2
      obtain ⟨b3, off3, e3, hcs'⟩ := (hs'.later I2.bel).at hlt
      obtain ⟨rfl, rfl⟩ : b' = b3 ∧ off' = off3 := by simpa using e3
      have hcp := hcs' k hlt
      clear hcs hcs' e2 e3
      cases hpe : (P k).toList.isEmpty with
      | true =>
        have I3 := I2.chiUp
        go_wp2
        go_roundg (n - (k + 1))
        case measure => omega
        case rel => exact ⟨k + 1, by omega, by go_num, I3⟩
      | false =>
        obtain ⟨q0, q1, q2⟩ := cells_of3 I2.p0
        have hbig := I2.big
        have hC2 := I2.chi
        obtain ⟨v, hgv, hlk⟩ := hC2.look_all (hP k)
        have hA : Below W2.heap.size W2 (W2.alloc (.cells #[.string (G k)] 9)).drew := ((Below.refl _ _).alloc (Nat.le_refl _) _).drew
        have hlk0 := hlk W2 rfl
        have hlk1 := hlk W2.drew rfl
        have hlk2 := hlk (W2.alloc (.cells #[.string (G k)] 9)).drew (hA.block _ (by omega))
        have hcp2 := cell_later hA hcp
        have q12 := cell_later hA q1
        have hgv3 : ∀ u, goodB W2 (w.heap.size + 5) k u = true → goodB (W2.alloc (.cells #[.string (G k)] 9)).drew (w.heap.size + 5) k u = true := fun u hu =>
          good_of_block (Nat.le_refl _) (fun g cur h1 h2 => ⟨cur, by show (W2.alloc _).heap[g]? = _; rw [Below.heap_alloc _ _ _ (Array.getElem?_eq_some_iff.1 h2).1]; exact h2, rfl⟩) hu
        have hC3 : CMap (W2.alloc (.cells #[.string (G k)] 9)).drew (w.heap.size + 1 + 1) k (w.heap.size + 5) k := hC2.stay (by show (W2.alloc _).heap[_]? = _; exact Below.heap_alloc _ _ _ (by omega)) hgv3
        obtain ⟨va, Wa, happ, hgva, hgall, hbela⟩ := append_good (W2.alloc (.cells #[.string (G k)] 9)).drew (w.heap.size + 5) k v (hgv3 v hgv) ⟨W2.heap.size, 0, none⟩ (G k) (new_cell _ _) (by omega) (by show _ ≤ (W2.alloc _).heap.size; simp; omega) 22
        have hCa : CMap Wa (w.heap.size + 1 + 1) k (w.heap.size + 5) (k + 1) := hC3.stay (hbela.block _ (by omega)) hgall
        obtain ⟨Wu, hupd, hCu, hgu⟩ := hCa.put (by omega) (by unfold maxLen; omega) (hP k) hgva
        have hb4 : ∀ j, j < w.heap.size + 5 → Wa.heap[j]? = W2.heap[j]? := fun j hj => (hbela.block j hj).trans (hA.block j (by omega))
        have hcp3 : Wa.cell? ⟨b', off' + k, none⟩ = some (.string (P k)) := (World.cell?_of_block (w := W2) (hb4 b' (by omega))).trans hcp
        have q13 : Wa.cell? ⟨w.heap.size + 1 + 1 + 1 + 1, 1, none⟩ = some (.map (some (w.heap.size + 1 + 1))) := (World.cell?_of_block (w := W2) (hb4 (w.heap.size + 1 + 1 + 1 + 1) (by omega))).trans q1
        have hb5 : ∀ j, j < w.heap.size + 5 → j ≠ w.heap.size + 1 + 1 → Wu.heap[j]? = W2.heap[j]? := fun j hj hne => (hgu.block j (by have := hbela.size; have := hA.size; omega) (by simpa using hne)).trans (hb4 j hj)
        have hcp4 : Wu.cell? ⟨b', off' + k, none⟩ = some (.string (P k)) := (World.cell?_of_block (w := W2) (hb5 b' (by omega) (by omega))).trans hcp
        have q14 : Wu.cell? ⟨w.heap.size + 1 + 1 + 1 + 1, 1, none⟩ = some (.map (some (w.heap.size + 1 + 1))) := (World.cell?_of_block (w := W2) (hb5 (w.heap.size + 1 + 1 + 1 + 1) (by omega) (by omega))).trans q1
        have hbu : Below w.heap.size W2 Wu := (hA.mono (by omega)).trans ((hbela.mono (by omega)).trans ⟨hgu.os, hgu.tape, hgu.output, hgu.size, fun j hj => hgu.block j (by have := hbela.size; have := hA.size; omega) (by simp; omega)⟩)
        have I3 : NewInv w Wu (k + 1) (parM G P (k + 1)) (k + 1) 0 (fun _ => none) := I2.putChi hCu hb5 hbu
        clear hC2 hC3 hgv3 hgall hlk hA hb4 hb5 hbu hCa hCu hgu hbela hgva hlk0 q0 q2 hgv hbig
        go_wp2
        go_region_held3 (fun w' => w'.cell? ⟨b', off' + k, none⟩ = some (.string (P k)) ∧ w'.cell? ⟨w.heap.size + 1 + 1 + 1 + 1, 1, none⟩ = some (.map (some (w.heap.size + 1 + 1))))
          (first | exact ⟨hcp, q1⟩ | exact ⟨hcp2, q12⟩ | exact ⟨hcp3, q13⟩ | exact ⟨hcp4, q14⟩)
          ((refine step_append_run (by rfl) _ _ _ (by rfl) _ _ _ _ (by rfl) (by rfl) happ ?_))
        all_goals
          clear hcp hcp2 hcp3 hcp4 q1 q12 q13 q14 happ hupd hlk1 hlk2
          go_wp2
          go_roundg (n - (k + 1))
          case measure => omega
          case rel => exact ⟨k + 1, by omega, by go_num, I3⟩
    · have hkn : k = n := by omega
      subst hkn
      have HP : Hid (∀ j, j < k → parM G P k (G j) = some (P j)) := fun j hj => parM_at HT.out.apart k (Nat.le_refl _) j hj
      go_wp2
      go_loopg [54] k (fun gi iv wi => ∃ i : Nat, i + gi = k ∧ iv = .int .i64 i ∧ NewInv w wi k (parM G P k) k i (depM G dep i))
      case atStart => exact ⟨0, by omega, rfl, I⟩
      case round =>
        clear I
        obtain ⟨i, hi, rfl, I⟩ := hrel
        by_cases hik : i < k
        · obtain ⟨b, off, rfl, hcs⟩ := (hs.later I.bel).at hik
          have hcg := hcs i hik
          clear hcs
          obtain ⟨q0, q1, q2⟩ := cells_of3 I.p0
          have hlook : ∀ j, j < k → (Instr.lookup 28 (.map (some (w.heap.size + 1))) (.string (G j)) false).run Try.prog wr = .ok (.string (P j)) wr := fun j hj => by
            have := I.par.look (hG j)
            rw [HP.out j hj] at this
            exact this
          have HL : Hid (∀ j, j < k → (Instr.lookup 28 (.map (some (w.heap.size + 1))) (.string (G j)) false).run Try.prog wr = .ok (.string (P j)) wr) := hlook
          have hl0 := hlook i hik
          have hlow := HT.out.low i hik
          obtain ⟨W2, hup, hS2, hg2⟩ := I.dep.put (by unfold maxLen; omega) (hG i) (v := (dep i : Int)) (WalkArith.wf_i64 (by omega))
          have I2 : NewInv w W2 k (parM G P k) k (i + 1) (depM G dep (i + 1)) := I.putDep hS2 hg2
          clear hlook hS2 hg2 I
          go_wp2
          go_loopg [10, 11] (dep i) (fun gd dv av wi => ∃ (d : Nat) (s : ByteArray), dv = .int .i64 d ∧ av = .string s ∧ d ≤ dep i ∧ Hid ((s = ByteArray.empty ∧ d = dep i) ∨ ∃ j, j < k ∧ s = G j ∧ gd = dep j + 1 ∧ d + dep j + 1 = dep i) ∧ wr = wi)
          case atStart =>
            refine ⟨0, P i, rfl, rfl, by omega, ?_, rfl⟩
            rcases HT.out.hangs i hik with ⟨_, h2, h3⟩ | ⟨j, h1, _, h3, h4⟩
            · exact .inl ⟨h2, h3.symm⟩
            · exact .inr ⟨j, h1, h3, h4, by omega⟩
          case round =>
            obtain ⟨d, s, rfl, rfl, hd, HR, rfl⟩ := hrel
            rcases HR.out with ⟨rfl, rfl⟩ | ⟨j, hj, rfl, hgd, hdj⟩
            · go_wp2
              go_roundg (k - (i + 1))
              case measure => omega
              case rel => exact ⟨i + 1, by omega, by go_num, I2⟩
            · have hne : (G j).toList.isEmpty = false := by
                rw [Bool.eq_false_iff]; intro e
                exact HT.out.named j hj (empty_iff.1 e)
              have hlj := HL.out j hj
              have HG : Hid (gk = dep j + 1 ∧ d + dep j + 1 = dep i) := ⟨hgd, hdj⟩
              have hd2 : d < dep i := by omega
              clear hgd hdj
              go_wp2
              go_roundg (dep j)
              case measure => have := HG.out; omega
              case rel =>
                refine ⟨d + 1, P j, by go_num, rfl, by omega, ?_, rfl⟩
                have hgg := HG.out
                rcases HT.out.hangs j hj with ⟨_, h2, h3⟩ | ⟨j', h1, _, h3, h4⟩
                · exact .inl ⟨h2, by omega⟩
                · exact .inr ⟨j', h1, h3, by omega, by omega⟩
        · obtain ⟨q0, q1, q2⟩ := cells_of3 I.p0
          obtain ⟨r0, r1, r2⟩ := cells_of3 I.r0
          have hik2 : i = k := by omega
          subst hik2
          have f0 : wr.frozen? ⟨w.heap.size, 0, none⟩ = false := by simp [World.frozen?, I.r0]
          have f1 : wr.frozen? ⟨w.heap.size, 1, none⟩ = false := by simp [World.frozen?, I.r0]
          have f2 : wr.frozen? ⟨w.heap.size, 2, none⟩ = false := by simp [World.frozen?, I.r0]
          have HI : Hid (NewInv w wr i (parM G P i) i i (depM G dep i)) := I
          clear I
          go_wp2
          have hb : ∀ j, j ≠ w.heap.size → (((wr.setCell ⟨w.heap.size, 0, none⟩ (.map (some (w.heap.size + 1)))).setCell ⟨w.heap.size, 1, none⟩ (.map (some (w.heap.size + 1 + 1)))).setCell ⟨w.heap.size, 2, none⟩ (.map (some (w.heap.size + 1 + 1 + 1)))).heap[j]? = wr.heap[j]? := fun j hj => by
            rw [Below.heap_setCell _ _ _ _ hj, Below.heap_setCell _ _ _ _ hj, Below.heap_setCell _ _ _ _ hj]
          exact bodyPost_ret (v := .agg #[.map (some (w.heap.size + 1)), .map (some (w.heap.size + 1 + 1)), .map (some (w.heap.size + 1 + 1 + 1))]) (by simp [results, Try.results13, go_sem, r0, r1, r2]) rfl
            ⟨_, _, _, rfl, HI.out.par.of_block (hb _ (by omega)), HI.out.dep.of_block (hb _ (by omega)), ((HI.out.bel.setCell (Nat.le_refl _) _).setCell (Nat.le_refl _) _).setCell (Nat.le_refl _) _⟩

end Go.Proofs.Qxb6000409a
