import Derived.Test.Qxb6000409aIndex
import Derived.Test.Qxb6000409aNew
import Derived.Test.Qxb6000409aLook
import Derived.Laws.CopyRow
import Derived.Laws.CopyOwn
import Derived.Deep.CutRange
import Derived.Deep.CutBlock
namespace Go.Proofs.Qxb6000409a
open Go.RowKit Plain Go.Maps

theorem info9s : (Try.prog.info? 9).map (·.size) = some 1 := by kernel_rfl
def valsS (G : Nat → ByteArray) (n : Nat) : List Value := (List.range n).map fun j => Value.string (G j)
theorem valsS_length (G : Nat → ByteArray) (n : Nat) : (valsS G n).length = n := by simp [valsS]
theorem valsS_get (G : Nat → ByteArray) (n j : Nat) (h : j < n) : (valsS G n)[j]? = some (.string (G j)) := by simp [valsS, h]
theorem valsS_some {G : Nat → ByteArray} {n j : Nat} {v : Value} (h : (valsS G n)[j]? = some v) : j < n ∧ v = .string (G j) := by
  have hj : j < n := by
    have := (List.getElem?_eq_some_iff.1 h).1
    simpa [valsS_length] using this
  rw [valsS_get G n j hj] at h
  exact ⟨hj, by simpa using h.symm⟩
theorem valsS_one (G : Nat → ByteArray) (n : Nat) : ∀ v ∈ valsS G n, v.oneCell' = true := by
  intro v hv
  simp only [valsS, List.mem_map] at hv
  obtain ⟨j, _, rfl⟩ := hv
  rfl

/-- 'zzc := make([]string, n); copy(zzc, src)' -/
theorem copyS (W : World) (x : Addr) (n c : Nat) (G : Nat → ByteArray) (M : Array Value) (hMs : M.size = n) (hx : ∀ j, j < n → W.cell? (x.add j) = some (.string (G j))) :
    ∃ Y : Array Value, (Builtin.copy_ #[22, 22] 3 #[.slice (some ⟨W.heap.size, 0, none⟩) n n, .slice (some x) n c]).run Try.prog (W.alloc (.cells M 9)) = .ok (goInt n) ((W.alloc (.cells M 9)).setRow W.heap.size Y) ∧
      (∀ j, j < n → ((W.alloc (.cells M 9)).setRow W.heap.size Y).cell? ⟨W.heap.size, 0 + j, none⟩ = some (.string (G j))) ∧
      Below W.heap.size W ((W.alloc (.cells M 9)).setRow W.heap.size Y) := by
  have hb1 : Below W.heap.size W (W.alloc (.cells M 9)) := (Below.refl _ W).alloc (Nat.le_refl _) _
  have hcp := run_copy_row (P := Try.prog) (W.alloc (.cells M 9)) 22 22 3 9 W.heap.size 0 n n x n c M 9 (valsS G n) Try.underlying22 info9s (heap_alloc_new W _)
    (by rw [valsS_length]; simp)
    (fun j v hv => by obtain ⟨hj, rfl⟩ := valsS_some hv; exact cell_later hb1 (hx j hj))
    (by rw [valsS_length]; omega) (valsS_one G n)
  rw [valsS_length] at hcp
  refine ⟨_, hcp, ?_, ?_⟩
  · intro j hj
    rw [cell_setRow_same _ _ _ M _ 9 (0, 0) (heap_alloc_new W _), ← Array.getElem?_toList, List.toList_toArray, List.take_zero, List.nil_append, List.drop_of_length_le (by rw [Array.length_toList]; omega), List.append_nil, Nat.zero_add]
    exact valsS_get G n j hj
  · exact hb1.trans ⟨rfl, rfl, rfl, by simp [World.setRow], fun k hk => setRow_other _ _ _ _ (by omega)⟩

theorem add_at (b off i : Nat) : (⟨b, off, none⟩ : Addr).add i = ⟨b, off + i, none⟩ := by
  unfold Addr.add
  split <;> simp_all

/-- what the law asks of a slice of strings that came in -/
def Came (w : World) (a : Option Addr) (n c : Nat) (G : Nat → ByteArray) : Prop := (a = none ∧ n = 0 ∧ c = 0) ∨ ∃ x : Addr, a = some x ∧ ∀ j, j < n → w.cell? (x.add j) = some (.string (G j))

theorem Came.later {w w' : World} {a : Option Addr} {n c : Nat} {G : Nat → ByteArray} (h : Came w a n c G) (hb : Below w.heap.size w w') : Came w' a n c G := by
  rcases h with h | ⟨x, e, h⟩
  · exact .inl h
  · exact .inr ⟨x, e, fun j hj => cell_later hb (h j hj)⟩
theorem Came.seg {w : World} {a : Option Addr} {n c : Nat} {G : Nat → ByteArray} (h : Came w a n c G) : SSeg w a n G := by
  rcases h with ⟨_, h, _⟩ | ⟨x, e, h⟩
  · exact .inl h
  · rcases Nat.eq_zero_or_pos n with h0 | h0
    · exact .inl h0
    · obtain ⟨b, o, sp⟩ := x
      have hsp : sp = none := by simpa [Addr.add] using World.cell?_spot (h 0 h0)
      subst hsp
      exact .inr ⟨b, o, e, fun j hj => by rw [← add_at]; exact h j hj⟩

/-- the world in the law's loop: p's block, its maps, the copies, the parents' numbers -/
structure LEnv (W : World) (B b0 b1 b2 bp : Nat) (a2 a3 : Option Addr) (n : Nat) (G P : Nat → ByteArray) (pf : Nat → Int) (dep : Nat → Nat) : Prop where
  par : SMap W b0 n (parM G P n)
  dpt : IMap W b2 n (depM G dep n)
  c0 : W.cell? ⟨B, 0, none⟩ = some (.map (some b0))
  c1 : W.cell? ⟨B, 1, none⟩ = some (.map (some b1))
  c2 : W.cell? ⟨B, 2, none⟩ = some (.map (some b2))
  g : SSeg W a2 n G
  p : SSeg W a3 n P
  pr : ∀ j, j < n → W.cell? ⟨bp, j, none⟩ = some (.int .i64 (pf j))
theorem LEnv.later {W W' : World} {B b0 b1 b2 bp : Nat} {a2 a3 : Option Addr} {n : Nat} {G P : Nat → ByteArray} {pf : Nat → Int} {dep : Nat → Nat} (E : LEnv W B b0 b1 b2 bp a2 a3 n G P pf dep) (hb : Below W.heap.size W W') :
    LEnv W' B b0 b1 b2 bp a2 a3 n G P pf dep :=
  ⟨E.par.later hb, E.dpt.later hb, cell_later hb E.c0, cell_later hb E.c1, cell_later hb E.c2, E.g.later hb, E.p.later hb, fun j hj => cell_later hb (E.pr j hj)⟩

theorem parent_b (b0 b1 b2 n : Nat) (m : ByteArray → Option ByteArray) (s v : ByteArray) (w : World) (hs : s.size ≤ maxLen) (hS : SMap w b0 n m) (hv : m s = some v) :
    Calls Try.prog 14 #[.agg #[.map (some b0), .map (some b1), .map (some b2)], .string s] w fun e w' => e = .returned (.tuple #[.string v, .bool true]) ∧ Below w.heap.size w w' := by
  refine (parent_any b0 b1 b2 n m s w hs hS).mono ?_
  rintro e w' ⟨he, rfl⟩
  rw [hv] at he
  exact ⟨he, (Below.refl _ _).alloc (Nat.le_refl _) _⟩
theorem parent_no (b0 b1 b2 n : Nat) (m : ByteArray → Option ByteArray) (s : ByteArray) (w : World) (hs : s.size ≤ maxLen) (hS : SMap w b0 n m) (hv : m s = none) :
    Calls Try.prog 14 #[.agg #[.map (some b0), .map (some b1), .map (some b2)], .string s] w fun e w' => e = .returned (.tuple #[.string ByteArray.empty, .bool false]) ∧ Below w.heap.size w w' := by
  refine (parent_any b0 b1 b2 n m s w hs hS).mono ?_
  rintro e w' ⟨he, rfl⟩
  rw [hv] at he
  exact ⟨he, (Below.refl _ _).alloc (Nat.le_refl _) _⟩
theorem depth_b (b0 b1 b2 n : Nat) (m : ByteArray → Option Int) (s : ByteArray) (v : Int) (w : World) (hs : s.size ≤ maxLen) (hS : IMap w b2 n m) (hv : m s = some v) :
    Calls Try.prog 15 #[.agg #[.map (some b0), .map (some b1), .map (some b2)], .string s] w fun e w' => e = .returned (.tuple #[.int .i64 v, .bool true]) ∧ Below w.heap.size w w' := by
  refine (depth_any b0 b1 b2 n m s w hs hS).mono ?_
  rintro e w' ⟨he, rfl⟩
  rw [hv] at he
  exact ⟨he, (Below.refl _ _).alloc (Nat.le_refl _) _⟩
theorem depth_no (b0 b1 b2 n : Nat) (m : ByteArray → Option Int) (s : ByteArray) (w : World) (hs : s.size ≤ maxLen) (hS : IMap w b2 n m) (hv : m s = none) :
    Calls Try.prog 15 #[.agg #[.map (some b0), .map (some b1), .map (some b2)], .string s] w fun e w' => e = .returned (.tuple #[.int .i64 0, .bool false]) ∧ Below w.heap.size w w' := by
  refine (depth_any b0 b1 b2 n m s w hs hS).mono ?_
  rintro e w' ⟨he, rfl⟩
  rw [hv] at he
  exact ⟨he, (Below.refl _ _).alloc (Nat.le_refl _) _⟩

set_option maxRecDepth 20000 in
set_option maxHeartbeats 2000000 in
theorem law_any (a a' : Option Addr) (n c n' c' : Nat) (G P : Nat → ByteArray) (w : World) (hn : n ≤ maxLen) (hn' : n' ≤ maxLen) (hG : ∀ j, (G j).size ≤ maxLen) (hP : ∀ j, (P j).size ≤ maxLen) (hs : Came w a n c G) (hs' : Came w a' n' c' P) :
    Calls Try.prog 3 #[.slice a n c, .slice a' n' c'] w fun e w' => e = .returned (.bool true) ∧ Below w.heap.size w w' := by
  have hne := fun (w : World) => run_neq_slice_nil_any (P := Try.prog) w 22 9 a n c 0 0 Try.underlying22
  have hne' := fun (w : World) => run_neq_slice_nil_any (P := Try.prog) w 22 9 a' n' c' 0 0 Try.underlying22
  have hz := hn
  have hz' := hn'
  unfold maxLen at hz hz'
  go_enter Try.func3, Try.ntmps3
  go_wp2_with fail
  refine (zz_any _ _ _ _ _ _ G P _ hn hn' hG hP hs.seg hs'.seg).mono ?_
  rintro _ _ ⟨⟨bz, rfl⟩, hw⟩
  obtain rfl := hw.symm
  cases bz with
  | false =>
    go_wp2_with fail
    go_ret
    exact ⟨rfl, Below.refl _ _⟩
  | true =>
    by_cases h1 : 256 < n
    · go_wp2_with fail
      go_ret
      exact ⟨rfl, Below.refl _ _⟩
    by_cases h2 : 256 < n'
    · go_wp2_with fail
      go_ret
      exact ⟨rfl, Below.refl _ _⟩
    go_wp2_with fail
    refine (bytesOf_any _ _ _ G _ (by omega) hG hs.seg).mono ?_
    rintro _ _ ⟨t, rfl, hw, t0, t1⟩
    obtain rfl := hw.symm
    go_wp2_with fail
    refine (bytesOf_any _ _ _ P _ (by omega) hP hs'.seg).mono ?_
    rintro _ _ ⟨t', rfl, hw, t0', t1'⟩
    obtain rfl := hw.symm
    by_cases h3 : 1048576 < t + t'
    · go_wp2_with fail
      go_ret
      exact ⟨rfl, Below.refl _ _⟩
    go_upto_if 40 with fail
    go_cut [0] from 21 to 47 (fun v wx => (∃ (a2 : Option Addr) (c2 : Nat), v = .slice a2 n c2 ∧ SSeg wx a2 n G) ∧ Below w.heap.size w wx)
    case first =>
      rcases hs with ⟨rfl, rfl, rfl⟩ | ⟨x, rfl, hx⟩
      · go_wp2
        go_meet
        exact ⟨⟨_, _, rfl, .inl rfl⟩, Below.refl _ _⟩
      · have hmk := run_make_row' (P := Try.prog) 22 9 (.string ByteArray.empty) 16 Try.underlying22 info9 rfl .i64 .i64 n (by omega) (by omega)
        obtain ⟨M, hM⟩ : ∃ M, M = madeCells #[Value.string ByteArray.empty] n := ⟨_, rfl⟩
        have hMs : M.size = n := by rw [hM, size_madeCells]
        rw [← hM] at hmk
        clear hM
        obtain ⟨Y, hcp, hY, hbY⟩ := copyS w x n c G M hMs hx
        have HY : Hid (∀ j, j < n → ((w.alloc (.cells M 9)).setRow w.heap.size Y).cell? ⟨w.heap.size, 0 + j, none⟩ = some (.string (G j))) := hY
        have HM : Hid (M.size = n) := hMs
        clear hY hMs hx
        go_wp2
        go_meet
        exact ⟨⟨_, _, rfl, .inr ⟨_, _, rfl, HY.out⟩⟩, hbY⟩
    case rest =>
      obtain ⟨W1, hW⟩ : ∃ W1, W1 = wc := ⟨_, rfl⟩
      subst hW
      obtain ⟨⟨a2, c2, rfl, hG2⟩, hb1⟩ := hcut
      have hs1 := hs'.later hb1
      clear hs hs' hne h3 t0 t1 t0' t1'
      go_upto_if 49 with fail
      go_cut [1] from 21 to 56 (fun v wx => (∃ (a2 : Option Addr) (c2 : Nat), v = .slice a2 n' c2 ∧ SSeg wx a2 n' P) ∧ Below W1.heap.size W1 wx)
      case first =>
        rcases hs1 with ⟨rfl, rfl, rfl⟩ | ⟨x, rfl, hx⟩
        · go_wp2
          go_meet
          exact ⟨⟨_, _, rfl, .inl rfl⟩, Below.refl _ _⟩
        · have hmk := run_make_row' (P := Try.prog) 22 9 (.string ByteArray.empty) 16 Try.underlying22 info9 rfl .i64 .i64 n' (by omega) (by omega)
          obtain ⟨M, hM⟩ : ∃ M, M = madeCells #[Value.string ByteArray.empty] n' := ⟨_, rfl⟩
          have hMs : M.size = n' := by rw [hM, size_madeCells]
          rw [← hM] at hmk
          clear hM
          obtain ⟨Y, hcp, hY, hbY⟩ := copyS W1 x n' c' P M hMs hx
          have HY : Hid (∀ j, j < n' → ((W1.alloc (.cells M 9)).setRow W1.heap.size Y).cell? ⟨W1.heap.size, 0 + j, none⟩ = some (.string (P j))) := hY
          have HM : Hid (M.size = n') := hMs
          clear hY hMs hx
          go_wp2
          go_meet
          exact ⟨⟨_, _, rfl, .inr ⟨_, _, rfl, HY.out⟩⟩, hbY⟩
      case rest =>
        obtain ⟨W2, hW⟩ : ∃ W2, W2 = wc := ⟨_, rfl⟩
        subst hW
        obtain ⟨⟨a3, c3, rfl, hP3⟩, hb2⟩ := hcut
        have hG3 := hG2.later hb2
        have hbel : Below w.heap.size w W2 := hb1.trans (hb2.mono hb1.size)
        clear hG2 hs1 hb1 hb2 hne'
        by_cases hnn : n' = n
        · subst hnn
          go_wp2_with fail
          refine (ti_same _ _ _ _ _ G P _ (by omega) hG3 hP3).mono ?_
          rintro _ W3 ⟨hb3, hor⟩
          rcases hor with rfl | ⟨_, bp, pf, dep, rfl, hpar, T⟩
          · go_wp2_with fail
            go_ret
            exact ⟨rfl, hbel.trans (hb3.mono hbel.size)⟩
          · have HT : Hid (Tree n' G P pf dep) := T
            have hG4 := hG3.later hb3
            have hP4 := hP3.later hb3
            go_wp2_with fail
            refine (new_any _ _ _ _ _ G P pf dep _ (by omega) hG hP hG4 hP4 HT.out).mono ?_
            rintro _ W4 ⟨b0, b1, b2, rfl, hS4, hI4, hb4⟩
            go_wp2_with fail
            have hk5 : Below W4.heap.size W4 (W4.alloc (.cells #[.map (some b0), .map (some b1), .map (some b2)] 32)) := (Below.refl _ _).alloc (Nat.le_refl _) _
            have hc5 := cells_of3 (heap_alloc_new W4 (.cells #[.map (some b0), .map (some b1), .map (some b2)] 32))
            have E5 : LEnv (W4.alloc (.cells #[.map (some b0), .map (some b1), .map (some b2)] 32)) W4.heap.size b0 b1 b2 bp a2 a3 n' G P pf dep :=
              ⟨hS4.later hk5, hI4.later hk5, hc5.1, hc5.2.1, hc5.2.2, (hG4.later hb4).later hk5, (hP4.later hb4).later hk5, fun j hj => by have := hpar j hj; rw [Nat.zero_add] at this; exact cell_later hk5 (cell_later hb4 this)⟩
            have hbel3 : Below w.heap.size w W3 := hbel.trans (hb3.mono hbel.size)
            have hbel4 : Below w.heap.size w W4 := hbel3.trans (hb4.mono hbel3.size)
            have hbel5 : Below w.heap.size w (W4.alloc (.cells #[.map (some b0), .map (some b1), .map (some b2)] 32)) := hbel4.trans (hk5.mono hbel4.size)
            obtain ⟨B9, hB9⟩ : ∃ B9, B9 = W4.heap.size := ⟨_, rfl⟩
            rw [← hB9] at E5 ⊢
            clear hk5 hc5 hS4 hI4 hG4 hP4 hpar hb4 hb3 hbel hbel3 hbel4 hB9 hG3 hP3 T h1
            go_loopg [10] n' (fun gk iv wr => ∃ k : Nat, k + gk = n' ∧ iv = .int .i64 k ∧ LEnv wr B9 b0 b1 b2 bp a2 a3 n' G P pf dep ∧ Below w.heap.size w wr)
            case atStart => exact ⟨0, by omega, rfl, E5, hbel5⟩
            case round =>
              clear E5 hbel5
              obtain ⟨k, hk, rfl, E, hbel⟩ := hrel
              by_cases hlt : k < n'
              · obtain ⟨b, off, rfl, hcs⟩ := E.g.at hlt
                obtain ⟨b', off', rfl, hcs'⟩ := E.p.at hlt
                have hcg := hcs k hlt
                have hc0 := E.c0
                have hc1 := E.c1
                have hc2 := E.c2
                have hki : (k : Int) < (n' : Int) := by omega
                have hpk : Hid (parM G P n' (G k) = some (P k)) := parM_at HT.out.apart n' (Nat.le_refl _) k hlt
                have hSd : SMap wr.drew b0 n' (parM G P n') := E.par
                clear hcs hcs'
                go_wp2_with fail
                go_region_held3 (fun w' => w'.cell? ⟨B9, 0, none⟩ = some (.map (some b0)) ∧ w'.cell? ⟨B9, 1, none⟩ = some (.map (some b1)) ∧ w'.cell? ⟨B9, 2, none⟩ = some (.map (some b2)) ∧ w'.cell? ⟨b, off + k, none⟩ = some (.string (G k)))
                  (first | exact ⟨hc0, hc1, hc2, hcg⟩ | exact ⟨cell_later hb1 hc0, cell_later hb1 hc1, cell_later hb1 hc2, cell_later hb1 hcg⟩)
                  ((go_at_call 14; refine (parent_b b0 b1 b2 n' _ (G k) (P k) _ (hG k) hSd hpk.out).mono ?_; rintro _ w1 ⟨rfl, hb1⟩))
                have hb1' : Below wr.heap.size wr w1 := ⟨hb1.os, hb1.tape, hb1.output, hb1.size, hb1.block⟩
                have E1 := E.later hb1'
                have hbel1 : Below w.heap.size w w1 := hbel.trans (hb1'.mono hbel.size)
                clear hb1 hb1' E hbel hc0 hc1 hc2 hcg hSd hpk
                obtain ⟨b2', off2, e2, hcs⟩ := E1.g.at hlt
                obtain ⟨rfl, rfl⟩ : b = b2' ∧ off = off2 := by simpa using e2
                obtain ⟨b3', off3, e3, hcs'⟩ := E1.p.at hlt
                obtain ⟨rfl, rfl⟩ : b' = b3' ∧ off' = off3 := by simpa using e3
                have hcg := hcs k hlt
                have hcp := hcs' k hlt
                have hc0 := E1.c0
                have hc1 := E1.c1
                have hc2 := E1.c2
                have hdk : Hid (depM G dep n' (G k) = some (dep k : Int)) := depM_at HT.out.apart n' (Nat.le_refl _) k hlt
                have hId : IMap w1.drew b2 n' (depM G dep n') := E1.dpt
                clear hcs hcs' e2 e3
                go_wp2_with fail
                go_region_held3 (fun w' => w'.cell? ⟨B9, 0, none⟩ = some (.map (some b0)) ∧ w'.cell? ⟨B9, 1, none⟩ = some (.map (some b1)) ∧ w'.cell? ⟨B9, 2, none⟩ = some (.map (some b2)) ∧ w'.cell? ⟨b, off + k, none⟩ = some (.string (G k)))
                  (first | exact ⟨hc0, hc1, hc2, hcg⟩ | exact ⟨cell_later hb2 hc0, cell_later hb2 hc1, cell_later hb2 hc2, cell_later hb2 hcg⟩)
                  ((go_at_call 15; refine (depth_b b0 b1 b2 n' _ (G k) (dep k : Int) _ (hG k) hId hdk.out).mono ?_; rintro _ w2 ⟨rfl, hb2⟩))
                have hb2' : Below w1.heap.size w1 w2 := ⟨hb2.os, hb2.tape, hb2.output, hb2.size, hb2.block⟩
                have E2 := E1.later hb2'
                have hbel2 : Below w.heap.size w w2 := hbel1.trans (hb2'.mono hbel1.size)
                clear hb2 hb2' E1 hbel1 hc0 hc1 hc2 hcg hcp hId hdk
                obtain ⟨b3', off3, e3, hcs'⟩ := E2.p.at hlt
                obtain ⟨rfl, rfl⟩ : b' = b3' ∧ off' = off3 := by simpa using e3
                have hcp := hcs' k hlt
                have hc0 := E2.c0
                have hc1 := E2.c1
                have hc2 := E2.c2
                have hpr := E2.pr k hlt
                clear hcs' e3
                rcases HT.out.hangs k hlt with ⟨q1, _, q2⟩ | ⟨j, hj, q1, q2, q3⟩
                · rw [q1] at hpr
                  rw [q2]
                  clear q1 q2
                  go_wp2_with fail
                  go_roundg (n' - (k + 1))
                  case measure => omega
                  case rel => exact ⟨k + 1, by omega, by go_num, E2, hbel2⟩
                · rw [q1] at hpr
                  have hdj : Hid (depM G dep n' (P k) = some (dep j : Int)) := by
                    rw [q2]
                    exact depM_at HT.out.apart n' (Nat.le_refl _) j hj
                  have hle : dep j ≤ n' + 1 := HT.out.low j hj
                  have hId : IMap w2.drew b2 n' (depM G dep n') := E2.dpt
                  rw [q3]
                  clear q1 q2 q3
                  obtain ⟨d, hd⟩ : ∃ d, d = dep j := ⟨_, rfl⟩
                  rw [← hd] at hdj hle ⊢
                  clear hd
                  go_wp2_with fail
                  go_region_held3 (fun w' => w'.cell? ⟨B9, 0, none⟩ = some (.map (some b0)) ∧ w'.cell? ⟨B9, 1, none⟩ = some (.map (some b1)) ∧ w'.cell? ⟨B9, 2, none⟩ = some (.map (some b2)) ∧ w'.cell? ⟨b', off' + k, none⟩ = some (.string (P k)))
                    (first | exact ⟨hc0, hc1, hc2, hcp⟩ | exact ⟨cell_later hb3 hc0, cell_later hb3 hc1, cell_later hb3 hc2, cell_later hb3 hcp⟩)
                    ((go_at_call 15; refine (depth_b b0 b1 b2 n' _ (P k) (d : Int) _ (hP k) hId hdj.out).mono ?_; rintro _ w3 ⟨rfl, hb3⟩))
                  have hb3' : Below w2.heap.size w2 w3 := ⟨hb3.os, hb3.tape, hb3.output, hb3.size, hb3.block⟩
                  have E3 := E2.later hb3'
                  have hbel3 : Below w.heap.size w w3 := hbel2.trans (hb3'.mono hbel2.size)
                  clear hb3 hb3' E2 hbel2 hc0 hc1 hc2 hcp hId hdj hpr
                  go_wp2_with fail
                  go_roundg (n' - (k + 1))
                  case measure => omega
                  case rel => exact ⟨k + 1, by omega, by go_num, E3, hbel3⟩
              · have hc0 := E.c0
                have hc1 := E.c1
                have hc2 := E.c2
                have hki : ¬ (k : Int) < (n' : Int) := by omega
                go_wp2_with fail
                refine (parent_no b0 b1 b2 n' _ ByteArray.empty _ (by decide) E.par (parM_none n' (fun i hi => HT.out.named i hi))).mono ?_
                rintro _ w1 ⟨rfl, hb1⟩
                have E1 := E.later hb1
                have hbel1 : Below w.heap.size w w1 := hbel.trans (hb1.mono hbel.size)
                clear hb1 E hbel hc0 hc1 hc2
                have hc0 := E1.c0
                have hc1 := E1.c1
                have hc2 := E1.c2
                go_wp2_with fail
                refine (depth_no b0 b1 b2 n' _ ByteArray.empty _ (by decide) E1.dpt (depM_none n' (fun i hi => HT.out.named i hi))).mono ?_
                rintro _ w2 ⟨rfl, hb2⟩
                have hbel2 : Below w.heap.size w w2 := hbel1.trans (hb2.mono hbel1.size)
                clear hb2 E1 hbel1 hc0 hc1 hc2
                go_wp2_with fail
                go_ret
                exact ⟨rfl, hbel2⟩
        · go_wp2_with fail
          refine (ti_other _ _ _ _ _ _ G P _ hnn).mono ?_
          rintro _ W3 ⟨hb3, hor⟩
          rcases hor with rfl | ⟨h, _⟩
          · go_wp2_with fail
            go_ret
            exact ⟨rfl, hbel.trans (hb3.mono hbel.size)⟩
          · exact absurd h hnn

end Go.Proofs.Qxb6000409a
