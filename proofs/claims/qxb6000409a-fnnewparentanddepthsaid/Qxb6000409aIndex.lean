import Derived.Test.Qxb6000409aBase
import Derived.Test.Qxb6000409aPlain
import Derived.Deep.OwnRows
import Derived.Deep.LoopGhost
import Derived.Deep.QuietTactic
import Derived.BigQuiet
import Derived.WalkSmall
namespace Go.Proofs.Qxb6000409a
open Go.RowKit Plain

theorem info3 : (Try.prog.info? 3).map (fun i => (i.zero, i.size, i.bytes)) = some (some (.int .i64 0), 1, 8) := by kernel_rfl

/-- what comes of treeB1TreeIndex: a refusal, or each group's parent, one tree -/
def TIPost (w : World) (n n' : Nat) (G P : Nat → ByteArray) (e : Ending) (w' : World) : Prop :=
  Below w.heap.size w w' ∧ (e = .returned (.tuple #[.slice none 0 0, .bool false]) ∨
    (n' = n ∧ ∃ (b : Nat) (pf : Nat → Int) (dep : Nat → Nat), e = .returned (.tuple #[.slice (some ⟨b, 0, none⟩) n n, .bool true]) ∧ (∀ j, j < n → w'.cell? ⟨b, 0 + j, none⟩ = some (.int .i64 (pf j))) ∧ Tree n G P pf dep))

theorem empty_iff {s : ByteArray} : s.toList.isEmpty = true ↔ s = ByteArray.empty := by
  rw [List.isEmpty_iff, ByteArray.toList_eq]
  constructor
  · intro h; exact ByteArray.ext (Array.toList_inj.1 h)
  · intro h; rw [h]; rfl

theorem row_set {w : World} {B n : Nat} {pf : Nat → Int} (h : w.rowIs B 3 n (fun j => .int .i64 (pf j))) (k : Nat) (x : Int) :
    (w.setCell ⟨B, k, none⟩ (.int .i64 x)).rowIs B 3 n (fun j => .int .i64 (if j = k then x else pf j)) := by
  refine (h.set k (.int .i64 x)).congr ?_
  intro i _
  show (if i = k then _ else _) = _
  split <;> rfl
theorem seen_next {n : Nat} {G P : Nat → ByteArray} {pf : Nat → Int} {k : Nat} {x : Int} (h : SeenK n G P pf k) (h1 : G k ≠ ByteArray.empty) (h2 : ∀ u, u < k → G u ≠ G k)
    (h3 : (P k = ByteArray.empty ∧ x = -1) ∨ (P k ≠ ByteArray.empty ∧ ∃ k' : Nat, k' < n ∧ x = k' ∧ G k' = P k)) : SeenK n G P (fun j => if j = k then x else pf j) (k + 1) := by
  intro j hj
  by_cases e : j = k
  · subst e
    simp only [if_true]
    exact ⟨h1, h2, h3⟩
  · simp only [if_neg e]
    exact h j (by omega)

theorem ti_other (a a' : Option Addr) (n c n' c' : Nat) (G P : Nat → ByteArray) (w : World) (h : ¬ n' = n) :
    Calls Try.prog 12 #[.slice a n c, .slice a' n' c'] w (TIPost w n n' G P) := by
  have hd : ((n' : Int) != (n : Int)) = true := by simp; omega
  go_enter Try.func12, Try.ntmps12
  go_wp2
  go_ret2
  exact ⟨Below.refl _ _, .inl rfl⟩

set_option maxRecDepth 20000 in
set_option maxHeartbeats 2000000 in
theorem ti_same (a a' : Option Addr) (n c c' : Nat) (G P : Nat → ByteArray) (w : World) (hn : n ≤ 256) (hs : SSeg w a n G) (hs' : SSeg w a' n P) :
    Calls Try.prog 12 #[.slice a n c, .slice a' n c'] w (TIPost w n n G P) := by
  have hmk := run_make_row' (P := Try.prog) 25 3 (.int .i64 0) 8 Try.underlying25 info3 rfl .i64 .i64 n (by omega) (by omega)
  obtain ⟨M, hM⟩ : ∃ M, M = madeCells #[Value.int .i64 0] n := ⟨_, rfl⟩
  have hrow0 : (w.alloc (.cells M 3)).rowIs w.heap.size 3 n (fun _ => .int .i64 0) := by rw [hM]; exact World.rowIs_made w _ n 3
  rw [← hM] at hmk
  clear hM
  go_enter Try.func12, Try.ntmps12
  go_wp2
  go_loopg [8, 9] n (fun gk rt iv wr => ∃ k r : Nat, k + gk = n ∧ r ≤ k ∧ iv = .int .i64 k ∧ rt = .int .i64 r ∧ ∃ pf : Nat → Int, wr.rowIs w.heap.size 3 n (fun j => .int .i64 (pf j)) ∧ Below w.heap.size w wr ∧ Hid (SeenK n G P pf k))
  case atStart => exact ⟨0, 0, by omega, by omega, rfl, rfl, fun _ => 0, hrow0, (Below.refl _ _).alloc (Nat.le_refl _) _, fun j hj => by omega⟩
  case round =>
    obtain ⟨k, r, hk, hr, rfl, rfl, pf, hrow, hbel, HF⟩ := hrel
    clear hrow0 hmk
    by_cases hlt : k < n
    · have hsr := hs.later hbel
      have hsr' := hs'.later hbel
      obtain ⟨b, off, rfl, hcs⟩ := hsr.at hlt
      obtain ⟨b', off', rfl, hcs'⟩ := hsr'.at hlt
      have hcg := hcs k hlt
      have hcp := hcs' k hlt
      have HW : Hid (Below w.heap.size w wr) := hbel
      cases hem : (G k).toList.isEmpty with
      | true =>
        go_wp2
        go_ret2
        exact ⟨HW.out, .inl rfl⟩
      | false =>
        have HE : Hid (G k ≠ ByteArray.empty) := fun e => by rw [empty_iff.2 e] at hem; simp at hem
        go_wp2
        go_loopg [10] k (fun gj jv wj => ∃ j m : Nat, j + gj = k ∧ jv = .int .i64 j ∧ Hid (∀ u, u < j → G u ≠ G k) ∧ wj = wr.drewN m)
        case atStart => exact ⟨0, 0, by omega, rfl, fun u hu => by omega, rfl⟩
        case round =>
          obtain ⟨j, m, hj, rfl, HJ, rfl⟩ := hrel
          by_cases hlj : j < k
          · have hcj := hcs j (by omega)
            have hji : (j : Int) < (n : Int) := by omega
            have hki : (k : Int) < (n : Int) := by omega
            cases heq : ((G j).toList == (G k).toList) with
            | true =>
              go_wp2
              go_quiet (fail)
              go_wp2
              go_ret2
              exact ⟨below_drewN (below_drewN HW.out _) _, .inl rfl⟩
            | false =>
              have HQ : Hid (G j ≠ G k) := str_ne.1 heq
              go_wp2
              go_quiet (fail)
              go_wp2
              go_roundg (k - (j + 1))
              case measure => omega
              case rel => exact ⟨j + 1, _, by omega, by go_num, fun u hu => by
                  by_cases e : u = j
                  · rw [e]; exact HQ.out
                  · exact HJ.out u (by omega), rfl⟩
          · have HJ2 : Hid (∀ u, u < k → G u ≠ G k) := fun u hu => HJ.out u (by omega)
            have hrow2 : (wr.drewN m).rowIs w.heap.size 3 n (fun j => .int .i64 (pf j)) := hrow
            have hkc := hrow.cell hlt
            have hkf := hrow.frozen k
            cases hpe : (P k).toList.isEmpty with
            | true =>
              have HPE : Hid (P k = ByteArray.empty) := empty_iff.1 hpe
              go_wp2
              go_roundg (n - (k + 1))
              case measure => omega
              case rel => exact ⟨k + 1, r + 1, by omega, by omega, by go_num, by go_num, fun j => if j = k then -1 else pf j, row_set hrow2 k (-1), (below_drewN HW.out _).setCell (Nat.le_refl _) _, seen_next HF.out HE.out HJ2.out (.inl ⟨HPE.out, rfl⟩)⟩
            | false =>
              have HPE : Hid (P k ≠ ByteArray.empty) := fun e => by rw [empty_iff.2 e] at hpe; simp at hpe
              have hsd : SSeg (wr.drewN m) (some ⟨b, off, none⟩) n G := hsr
              go_wp2_with fail
              refine (indexOf_any _ _ _ G _ _ (by omega) hsd).mono ?_
              rintro _ _ ⟨rr, rfl, hw, hrr⟩
              obtain rfl := hw.symm
              rcases hrr with ⟨rfl, hno⟩ | ⟨k', hk', rfl, hG⟩
              · go_wp2
                go_ret2
                exact ⟨below_drewN HW.out _, .inl rfl⟩
              · have HG : Hid (G k' = P k) := hG
                clear hG
                go_wp2
                go_roundg (n - (k + 1))
                case measure => omega
                case rel => exact ⟨k + 1, r, by omega, by omega, by go_num, rfl, fun j => if j = k then (k' : Int) else pf j, row_set hrow2 k (k' : Int), (below_drewN HW.out _).setCell (Nat.le_refl _) _, seen_next HF.out HE.out HJ2.out (.inr ⟨HPE.out, k', hk', rfl, HG.out⟩)⟩
    · have hkn : k = n := by omega
      subst hkn
      have HW : Hid (Below w.heap.size w wr) := hbel
      have hcs : ∀ j, j < k → wr.cell? ⟨w.heap.size, j, none⟩ = some (.int .i64 (pf j)) := fun j hj => hrow.cell hj
      have HC : Hid (∀ j, j < k → wr.cell? ⟨w.heap.size, 0 + j, none⟩ = some (.int .i64 (pf j))) := fun j hj => by rw [Nat.zero_add]; exact hrow.cell hj
      clear hs hs' hbel hrow
      have hneg : ∀ (k' : Nat), ((k' : Int) == -1) = false := fun k' => by simp
      have hneg2 : ∀ (k' : Nat), ((k' : Int) != -1) = true := fun k' => by simp
      by_cases h0 : 0 < k
      · cases h1 : ((r : Int) == 1) with
        | false =>
          have h1' : ((r : Int) != 1) = true := by simpa using h1
          go_wp2
          go_ret2
          exact ⟨HW.out, .inl rfl⟩
        | true =>
          have h1' : ((r : Int) != 1) = false := by simpa using h1
          have HV : Hid (∀ j, j < k → pf j = -1 ∨ ∃ k' : Nat, k' < k ∧ pf j = k') := fun j hj => by
            rcases (HF.out j hj).2.2 with h | ⟨_, k', a, b, _⟩
            · exact .inl h.2
            · exact .inr ⟨k', a, b⟩
          go_wp2
          go_loopg [12] k (fun gi iv wi => ∃ i : Nat, i + gi = k ∧ iv = .int .i64 i ∧ Hid (∀ u, u < i → EndsK k pf u) ∧ wr = wi)
          case atStart => exact ⟨0, by omega, rfl, fun u hu => by omega, rfl⟩
          case round =>
            obtain ⟨i, hi, rfl, HE, rfl⟩ := hrel
            by_cases hik : i < k
            · go_wp2
              go_loopg [13, 14] (k + 1) (fun gt av sv wi => ∃ t : Nat, t + gt = k + 1 ∧ sv = .int .i64 t ∧ Hid (∀ u, u < t → it pf i u ≠ -1) ∧ (∃ x : Int, av = .int .i64 x ∧ Hid (x = it pf i t) ∧ Hid (x = -1 ∨ ∃ k' : Nat, k' < k ∧ x = k')) ∧ wr = wi)
              case atStart => exact ⟨0, by omega, rfl, fun u hu => by omega, ⟨_, rfl, rfl, .inr ⟨i, hik, rfl⟩⟩, rfl⟩
              case round =>
                obtain ⟨t, ht, rfl, HT, ⟨x, rfl, HX, HR⟩, rfl⟩ := hrel
                rcases HR.out with rfl | ⟨k', hk', rfl⟩
                · go_wp2
                  go_roundg (k - (i + 1))
                  case measure => omega
                  case rel => exact ⟨i + 1, by omega, by go_num, fun u hu => by
                      by_cases e : u = i
                      · rw [e]; exact ⟨t, by omega, HX.out.symm, HT.out⟩
                      · exact HE.out u (by omega), rfl⟩
                · have hc := hcs k' hk'
                  have hki : (k' : Int) < (k : Int) := by omega
                  have hn' := hneg k'
                  have hn2 := hneg2 k'
                  by_cases htk : k < t
                  · go_wp2
                    go_ret2
                    exact ⟨HW.out, .inl rfl⟩
                  · go_wp2
                    go_roundg (k - t)
                    case measure => omega
                    case rel => exact ⟨t + 1, by omega, by go_num, fun u hu => by
                        by_cases e : u = t
                        · rw [e, ← HX.out]; omega
                        · exact HT.out u (by omega), ⟨_, rfl, by show _ = nx pf (it pf i t); rw [← HX.out, nx, if_neg (by omega)]; simp, HV.out k' hk'⟩, rfl⟩
            · have HA : Hid (∀ u, u < k → EndsK k pf u) := fun u hu => HE.out u (by omega)
              go_wp2
              go_ret2
              exact ⟨HW.out, .inr ⟨rfl, _, pf, _, rfl, HC.out, tree_of HF.out HA.out⟩⟩
      · go_wp2
        go_loopg [12] 0 (fun gi iv wi => iv = .int .i64 0 ∧ wr = wi)
        case atStart => exact ⟨rfl, rfl⟩
        case round =>
          obtain ⟨rfl, rfl⟩ := hrel
          go_wp2
          go_ret2
          exact ⟨HW.out, .inr ⟨rfl, _, pf, _, rfl, HC.out, tree_of HF.out (fun i hi => by omega)⟩⟩

end Go.Proofs.Qxb6000409a
