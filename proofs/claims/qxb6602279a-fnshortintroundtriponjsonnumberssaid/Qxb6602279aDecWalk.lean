import Derived.Test.Qxb6602279aClone
import Derived.Test.Qxb6602279aDecPlain
import Derived.Deep.QuietTactic
import Derived.Deep.CutRange
import Derived.Deep.CutBlock
import Derived.BigQuiet
namespace Go.Proofs.Qxb6602279a
open Go.RowKit Plain

theorem isDig_yes (c : Int) (w : World) (h0 : 48 ≤ c) (h1 : c ≤ 57) :
    Calls Try.prog 24 #[.int .u8 c] w fun e w' => e = .returned (.bool true) ∧ w' = w := by
  go_enter Try.func24, Try.ntmps24
  go_wp2
  go_ret
  exact ⟨rfl, rfl⟩
theorem isDig_no (c : Int) (w : World) (h : ¬ (48 ≤ c ∧ c ≤ 57)) :
    Calls Try.prog 24 #[.int .u8 c] w fun e w' => e = .returned (.bool false) ∧ w' = w := by
  by_cases h0 : 48 ≤ c
  · have h1 : 57 < c := by omega
    have hd : decide (c ≤ 57) = false := by simpa using h1
    clear h
    go_enter Try.func24, Try.ntmps24
    go_wp2
    go_ret
    exact ⟨rfl, rfl⟩
  · clear h
    go_enter Try.func24, Try.ntmps24
    go_wp2
    go_ret
    exact ⟨rfl, rfl⟩

set_option maxHeartbeats 400000 in
/-- two slices that hold the same bytes -/
theorem same_yes (b off c b' off' c' n : Nat) (g : Nat → Int) (w : World) (hn : n ≤ 1048576) (h : ∀ j, j < n → w.cell? ⟨b, off + j, none⟩ = some (.int .u8 (g j))) (h' : ∀ j, j < n → w.cell? ⟨b', off' + j, none⟩ = some (.int .u8 (g j))) :
    Calls Try.prog 25 #[.slice (some ⟨b, off, none⟩) n c, .slice (some ⟨b', off', none⟩) n c'] w fun e w' => e = .returned (.bool true) ∧ ∃ m, w' = w.drewN m := by
  go_enter Try.func25, Try.ntmps25
  go_wp2
  go_loopw [5] (fun i wr => ∃ k : Nat, k ≤ n ∧ i = .int .i64 k ∧ ∃ m, wr = w.drewN m) (fun i _ => n - (intOf i).toNat)
  case atStart => exact ⟨0, by omega, rfl, 0, rfl⟩
  case round =>
    obtain ⟨k, hk, rfl, m, rfl⟩ := hrel
    by_cases hlt : k < n
    · have c1 := h k hlt
      have c2 := h' k hlt
      have hki : (k : Int) < (n : Int) := by omega
      go_wp2
      go_quiet (fail)
      go_wp2
      go_roundw
      case rel => exact ⟨k + 1, by omega, by go_num, _, rfl⟩
      case measure => simp [intOf]; omega
    · go_wp2
      go_ret
      exact ⟨rfl, _, rfl⟩

/-- the buffer's cells: from place j on the digits, before it zeros -/
def bufF (r : Nat → Int) (p j : Nat) : Nat → Value := fun i => if j ≤ i then .int .u8 (r (i - p)) else .int .u8 0

theorem zeros24 (i : Nat) (h : i < 24) (r : Nat → Int) (p : Nat) : (#[Value.int .u8 0, .int .u8 0, .int .u8 0, .int .u8 0, .int .u8 0, .int .u8 0, .int .u8 0, .int .u8 0, .int .u8 0, .int .u8 0, .int .u8 0, .int .u8 0, .int .u8 0, .int .u8 0, .int .u8 0, .int .u8 0, .int .u8 0, .int .u8 0, .int .u8 0, .int .u8 0, .int .u8 0, .int .u8 0, .int .u8 0, .int .u8 0] : Array Value)[i]? = some (bufF r p 24 i) := by
  have e : bufF r p 24 i = .int .u8 0 := by unfold bufF; rw [if_neg (by omega)]
  rw [e]
  match i, h with
  | 0, _ => rfl
  | 1, _ => rfl
  | 2, _ => rfl
  | 3, _ => rfl
  | 4, _ => rfl
  | 5, _ => rfl
  | 6, _ => rfl
  | 7, _ => rfl
  | 8, _ => rfl
  | 9, _ => rfl
  | 10, _ => rfl
  | 11, _ => rfl
  | 12, _ => rfl
  | 13, _ => rfl
  | 14, _ => rfl
  | 15, _ => rfl
  | 16, _ => rfl
  | 17, _ => rfl
  | 18, _ => rfl
  | 19, _ => rfl
  | 20, _ => rfl
  | 21, _ => rfl
  | 22, _ => rfl
  | 23, _ => rfl
  | k + 24, h => omega

theorem buf_store {w : World} {B : Nat} {r : Nat → Int} {p m : Nat} {y : Int} (h : w.rowIs B 39 24 (bufF r p (p + m + 1))) (hy : 48 + y = r m) :
    (w.setCell ⟨B, p + m, none⟩ (.int .u8 (48 + y))).rowIs B 39 24 (bufF r p (p + m)) := by
  refine (h.set (p + m) (.int .u8 (48 + y))).congr ?_
  intro i _
  show (if i = p + m then _ else _) = _
  unfold bufF
  by_cases e : i = p + m
  · rw [if_pos e, if_pos (by omega), hy, e, Nat.add_sub_cancel_left]
  · rw [if_neg e]
    by_cases e2 : p + m + 1 ≤ i
    · rw [if_pos e2, if_pos (by omega)]
    · rw [if_neg e2, if_neg (by omega)]

theorem add_at (b off i : Nat) : (⟨b, off, none⟩ : Addr).add i = ⟨b, off + i, none⟩ := by
  unfold Addr.add
  split <;> simp_all

/-- 'out := make([]byte, n); copy(out, src)': what the copy does, src having n bytes -/
theorem copy_new (W : World) (x : Addr) (n sLen sCap : Nat) (g : Nat → Int) (M : Array Value) (hMs : M.size = n) (hs : sLen = n) (hx : ∀ j, j < n → W.cell? (x.add j) = some (.int .u8 (g j))) :
    ∃ Y : Array Value, (Builtin.copy_ #[22, 22] 3 #[.slice (some ⟨W.heap.size, 0, none⟩) n n, .slice (some x) sLen sCap]).run Try.prog (W.alloc (.cells M 5)) = .ok (goInt n) ((W.alloc (.cells M 5)).setRow W.heap.size Y) ∧
      (∀ j, j < n → ((W.alloc (.cells M 5)).setRow W.heap.size Y).cell? ⟨W.heap.size, 0 + j, none⟩ = some (.int .u8 (g j))) ∧
      Below W.heap.size W ((W.alloc (.cells M 5)).setRow W.heap.size Y) ∧ W.heap.size < ((W.alloc (.cells M 5)).setRow W.heap.size Y).heap.size := by
  have hb1 : Below W.heap.size W (W.alloc (.cells M 5)) := (Below.refl _ W).alloc (Nat.le_refl _) _
  have hcp := run_copy_row (P := Try.prog) (W.alloc (.cells M 5)) 22 22 3 5 W.heap.size 0 n n x sLen sCap M 5 (vals g n) Try.underlying22 info5s (heap_alloc_new W _)
    (by rw [vals_length, hs]; simp)
    (fun j v hv => by obtain ⟨hj, rfl⟩ := vals_some hv; exact cell_later hb1 (hx j hj))
    (by rw [vals_length]; omega) (vals_one g n)
  rw [vals_length] at hcp
  refine ⟨_, hcp, ?_, ?_, ?_⟩
  · intro j hj
    rw [cell_setRow_same _ _ _ M _ 5 (0, 0) (heap_alloc_new W _), ← Array.getElem?_toList, List.toList_toArray, List.take_zero, List.nil_append, List.drop_of_length_le (by rw [Array.length_toList]; omega), List.append_nil, Nat.zero_add]
    exact vals_get g n j hj
  · exact hb1.trans ⟨rfl, rfl, rfl, by simp [World.setRow], fun k hk => setRow_other _ _ _ _ (by omega)⟩
  · simp [World.setRow]

theorem row_start (w : World) (r : Nat → Int) {p j : Nat} (h : j = 24) : (w.alloc (.cells #[Value.int .u8 0, .int .u8 0, .int .u8 0, .int .u8 0, .int .u8 0, .int .u8 0, .int .u8 0, .int .u8 0, .int .u8 0, .int .u8 0, .int .u8 0, .int .u8 0, .int .u8 0, .int .u8 0, .int .u8 0, .int .u8 0, .int .u8 0, .int .u8 0, .int .u8 0, .int .u8 0, .int .u8 0, .int .u8 0, .int .u8 0, .int .u8 0] 39)).rowIs w.heap.size 39 24 (bufF r p j) := by
  subst h
  exact World.rowIs_alloc w _ 39 _ fun i hi => zeros24 i hi r p

set_option maxRecDepth 20000 in
set_option maxHeartbeats 1000000 in
theorem dec_pos (r : Nat → Int) (q : Nat) (w : World) (hq : q ≤ 17) (hd : allDig r (q + 1) = true) (hnz : q = 0 ∨ 48 < r 0) :
    Calls Try.prog 26 #[.int .i64 (val r (q + 1))] w fun e w' => ∃ b : Nat, e = .returned (.slice (some ⟨b, 0, none⟩) (q + 1) (q + 1)) ∧
      (∀ j, j < q + 1 → w'.cell? ⟨b, 0 + j, none⟩ = some (.int .u8 (r j))) ∧ Below w.heap.size w w' ∧ b < w'.heap.size := by
  obtain ⟨x0, x1⟩ := val_lim (by omega) hd
  obtain ⟨x, hx⟩ : ∃ x, x = val r (q + 1) := ⟨_, rfl⟩
  rw [← hx] at x0 x1 ⊢
  have HX : Hid (x = val r (q + 1)) := hx
  have HD : Hid (∀ j, j < q + 1 → 48 ≤ r j ∧ r j ≤ 57) := fun j hj => allDig_at hd hj
  have HZ : Hid (q = 0 ∨ 48 < r 0) := hnz
  clear hx hd hnz
  obtain ⟨p, hp⟩ : ∃ p, p = 23 - q := ⟨_, rfl⟩
  have hp1 : p + q ≤ 23 := by omega
  have hp2 : 23 ≤ p + q := by omega
  clear hp
  go_enter Try.func26, Try.ntmps26
  go_upto_block 0 with fail
  go_cut [3, 6] from 15 to 26 (fun u k wx => k = .int .i64 p ∧ wx.rowIs w.heap.size 39 24 (bufF r p p) ∧ Below w.heap.size w wx)
  case first =>
    go_wp2
    go_loopw [3, 6] (fun u k wr => ∃ m : Nat, m ≤ q ∧ k = .int .i64 ((p : Int) + m + 1) ∧ (∃ y : Int, 0 ≤ y ∧ y < 1000000000000000000 ∧ u = .int .u64 y ∧ Hid (y = val r (m + 1))) ∧ wr.rowIs w.heap.size 39 24 (bufF r p (p + m + 1)) ∧ Below w.heap.size w wr) (fun _ k _ => (intOf k).toNat)
    case atStart => exact ⟨q, by omega, by go_num, ⟨x, x0, x1, rfl, HX⟩, row_start w r (by omega), (Below.refl _ _).alloc (Nat.le_refl _) _⟩
    case round =>
      obtain ⟨m, hm, rfl, ⟨y, y0, y1, rfl, HY⟩, hrow, hbel⟩ := hrel
      have hdm := HD.out m (by omega)
      have hdv := val_div (d := r) hdm
      rw [← HY.out] at hdv
      have HV : Hid (48 + y % 10 = r m) := by show _ = _; omega
      have HQ : Hid (y / 10 = val r m) := hdv.1
      clear hdv hdm
      obtain ⟨v0, hv0⟩ : ∃ v, wr.cell? ⟨w.heap.size, p + m, none⟩ = some v := ⟨_, hrow.cell (by omega)⟩
      have hfr := hrow.frozen (p + m)
      by_cases hm0 : m = 0
      · have hz : (y / 10 == 0) = true := by rw [HQ.out, hm0]; rfl
        have HM : Hid (m = 0) := hm0
        clear hm0
        go_wp2
        go_meet
        exact ⟨by rw [HM.out]; go_num, by have := buf_store hrow HV.out; rw [HM.out] at this ⊢; exact this, hbel.setCell (Nat.le_refl _) _⟩
      · obtain ⟨m', rfl⟩ : ∃ m', m = m' + 1 := ⟨m - 1, by omega⟩
        have hpos : 0 < val r (m' + 1) := val_pos (by have := HZ.out; omega) m' (fun j hj => HD.out j (by omega))
        have hz : (y / 10 == 0) = false := by rw [HQ.out]; simp; omega
        clear hm0 hpos
        go_wp2
        go_roundw
        case rel => exact ⟨m', by omega, by go_num, ⟨y / 10, by omega, by omega, rfl, HQ.out⟩, buf_store hrow HV.out, hbel.setCell (Nat.le_refl _) _⟩
        case measure => simp [intOf]; omega
  case rest =>
    obtain ⟨rfl, hrow, hbel⟩ := hcut
    have hmk := run_make_row' (P := Try.prog) 22 5 (.int .u8 0) 1 Try.underlying22 info5 rfl .i64 .i64 (q + 1) (by omega) (by omega)
    rw [show ((q + 1 : Nat) : Int) = 24 - (p : Int) by omega] at hmk
    obtain ⟨M, hM⟩ : ∃ M, M = madeCells #[Value.int .u8 0] (q + 1) := ⟨_, rfl⟩
    have hMs : M.size = q + 1 := by rw [hM, size_madeCells]
    rw [← hM] at hmk
    clear hM
    have hcells : ∀ j, j < q + 1 → wc.cell? ((⟨w.heap.size, p, none⟩ : Addr).add j) = some (.int .u8 (r j)) := fun j hj => by
      have := hrow.cell (i := p + j) (by omega)
      rw [bufF, if_pos (by omega), Nat.add_sub_cancel_left] at this
      rw [add_at]
      exact this
    obtain ⟨Y, hcp, hY, hb2, hsz⟩ := copy_new wc ⟨w.heap.size, p, none⟩ (q + 1) (24 - p) (24 - p) r M hMs (by omega) hcells
    have HY : Hid (∀ j, j < q + 1 → ((wc.alloc (.cells M 5)).setRow wc.heap.size Y).cell? ⟨wc.heap.size, 0 + j, none⟩ = some (.int .u8 (r j))) := hY
    have HC : Hid (M.size = q + 1) := hMs
    clear hY hcells hMs
    have hpi : (p : Int) ≤ 24 := by omega
    have hpn : ¬ 24 = p := by omega
    go_wp2
    go_ret
    exact ⟨_, rfl, HY.out, hbel.trans (hb2.mono hbel.size), hsz⟩

/-- a minus sign ahead of the digits -/
def negD (r : Nat → Int) : Nat → Int := fun j => if j = 0 then 45 else r (j - 1)

set_option maxRecDepth 20000 in
set_option maxHeartbeats 1000000 in
theorem dec_neg (r : Nat → Int) (q : Nat) (w : World) (hq : q ≤ 17) (hd : allDig r (q + 1) = true) (hnz : 48 < r 0) :
    Calls Try.prog 26 #[.int .i64 (-val r (q + 1))] w fun e w' => ∃ b : Nat, e = .returned (.slice (some ⟨b, 0, none⟩) (q + 2) (q + 2)) ∧
      (∀ j, j < q + 2 → w'.cell? ⟨b, 0 + j, none⟩ = some (.int .u8 (negD r j))) ∧ Below w.heap.size w w' ∧ b < w'.heap.size := by
  obtain ⟨x0, x1⟩ := val_lim (by omega) hd
  have xp : 0 < val r (q + 1) := val_pos hnz q (fun j hj => allDig_at hd hj)
  obtain ⟨x, hx⟩ : ∃ x, x = val r (q + 1) := ⟨_, rfl⟩
  rw [← hx] at x0 x1 xp ⊢
  have HX : Hid (x = val r (q + 1)) := hx
  have HD : Hid (∀ j, j < q + 1 → 48 ≤ r j ∧ r j ≤ 57) := fun j hj => allDig_at hd hj
  have HZ : Hid (q = 0 ∨ 48 < r 0) := Or.inr hnz
  clear hx hd hnz
  obtain ⟨p, hp⟩ : ∃ p, p = 23 - q := ⟨_, rfl⟩
  have hp1 : p + q ≤ 23 := by omega
  have hp2 : 23 ≤ p + q := by omega
  clear hp
  have hneg : IntKind.u64.wrap (-IntKind.u64.wrap (-x)) = x := by simp only [IntKind.wrap_u64]; omega
  have hxl : -x < 0 := by omega
  go_enter Try.func26, Try.ntmps26
  go_upto_block 0 with fail
  go_cut [3, 6] from 15 to 26 (fun u k wx => k = .int .i64 p ∧ wx.rowIs w.heap.size 39 24 (bufF r p p) ∧ Below w.heap.size w wx)
  case first =>
    go_wp2
    go_loopw [3, 6] (fun u k wr => ∃ m : Nat, m ≤ q ∧ k = .int .i64 ((p : Int) + m + 1) ∧ (∃ y : Int, 0 ≤ y ∧ y < 1000000000000000000 ∧ u = .int .u64 y ∧ Hid (y = val r (m + 1))) ∧ wr.rowIs w.heap.size 39 24 (bufF r p (p + m + 1)) ∧ Below w.heap.size w wr) (fun _ k _ => (intOf k).toNat)
    case atStart => exact ⟨q, by omega, by go_num, ⟨x, x0, x1, rfl, HX⟩, row_start w r (by omega), (Below.refl _ _).alloc (Nat.le_refl _) _⟩
    case round =>
      obtain ⟨m, hm, rfl, ⟨y, y0, y1, rfl, HY⟩, hrow, hbel⟩ := hrel
      have hdm := HD.out m (by omega)
      have hdv := val_div (d := r) hdm
      rw [← HY.out] at hdv
      have HV : Hid (48 + y % 10 = r m) := by show _ = _; omega
      have HQ : Hid (y / 10 = val r m) := hdv.1
      clear hdv hdm
      obtain ⟨v0, hv0⟩ : ∃ v, wr.cell? ⟨w.heap.size, p + m, none⟩ = some v := ⟨_, hrow.cell (by omega)⟩
      have hfr := hrow.frozen (p + m)
      by_cases hm0 : m = 0
      · have hz : (y / 10 == 0) = true := by rw [HQ.out, hm0]; rfl
        have HM : Hid (m = 0) := hm0
        clear hm0
        go_wp2
        go_meet
        exact ⟨by rw [HM.out]; go_num, by have := buf_store hrow HV.out; rw [HM.out] at this ⊢; exact this, hbel.setCell (Nat.le_refl _) _⟩
      · obtain ⟨m', rfl⟩ : ∃ m', m = m' + 1 := ⟨m - 1, by omega⟩
        have hpos : 0 < val r (m' + 1) := val_pos (by have := HZ.out; omega) m' (fun j hj => HD.out j (by omega))
        have hz : (y / 10 == 0) = false := by rw [HQ.out]; simp; omega
        clear hm0 hpos
        go_wp2
        go_roundw
        case rel => exact ⟨m', by omega, by go_num, ⟨y / 10, by omega, by omega, rfl, HQ.out⟩, buf_store hrow HV.out, hbel.setCell (Nat.le_refl _) _⟩
        case measure => simp [intOf]; omega
  case rest =>
    obtain ⟨rfl, hrow, hbel⟩ := hcut
    obtain ⟨p', rfl⟩ : ∃ p', p = p' + 1 := ⟨p - 1, by omega⟩
    obtain ⟨v0, hv0⟩ : ∃ v, wc.cell? ⟨w.heap.size, p', none⟩ = some v := ⟨_, hrow.cell (by omega)⟩
    have hfr := hrow.frozen p'
    have hrow2 := hrow.set p' (.int .u8 45)
    have hbel2 : Below w.heap.size w (wc.setCell ⟨w.heap.size, p', none⟩ (.int .u8 45)) := hbel.setCell (Nat.le_refl _) _
    have hmk := run_make_row' (P := Try.prog) 22 5 (.int .u8 0) 1 Try.underlying22 info5 rfl .i64 .i64 (q + 2) (by omega) (by omega)
    rw [show ((q + 2 : Nat) : Int) = 24 - (p' : Int) by omega] at hmk
    obtain ⟨M, hM⟩ : ∃ M, M = madeCells #[Value.int .u8 0] (q + 2) := ⟨_, rfl⟩
    have hMs : M.size = q + 2 := by rw [hM, size_madeCells]
    rw [← hM] at hmk
    clear hM
    have hcells : ∀ j, j < q + 2 → (wc.setCell ⟨w.heap.size, p', none⟩ (.int .u8 45)).cell? ((⟨w.heap.size, p', none⟩ : Addr).add j) = some (.int .u8 (negD r j)) := fun j hj => by
      have := hrow2.cell (i := p' + j) (by omega)
      rw [add_at, this]
      by_cases e : j = 0
      · rw [if_pos (by omega), e]; rfl
      · rw [if_neg (by omega), bufF, if_pos (by omega), negD, if_neg e, show p' + j - (p' + 1) = j - 1 by omega]
    obtain ⟨Y, hcp, hY, hb2, hsz⟩ := copy_new (wc.setCell ⟨w.heap.size, p', none⟩ (.int .u8 45)) ⟨w.heap.size, p', none⟩ (q + 2) (24 - p') (24 - p') (negD r) M hMs (by omega) hcells
    have hs0 : (wc.setCell ⟨w.heap.size, p', none⟩ (.int .u8 45)).heap.size = wc.heap.size := by simp [World.setCell]
    rw [hs0] at hcp hY hb2 hsz
    have HY : Hid (∀ j, j < q + 2 → (((wc.setCell ⟨w.heap.size, p', none⟩ (.int .u8 45)).alloc (.cells M 5)).setRow wc.heap.size Y).cell? ⟨wc.heap.size, 0 + j, none⟩ = some (.int .u8 (negD r j))) := hY
    have HC : Hid (M.size = q + 2) := hMs
    clear hY hcells hMs hrow2 hs0
    have hpi : (p' : Int) ≤ 24 := by omega
    have hpn : ¬ 24 = p' := by omega
    go_wp2
    go_ret
    exact ⟨_, rfl, HY.out, hbel2.trans (hb2.mono hbel.size), hsz⟩

end Go.Proofs.Qxb6602279a
