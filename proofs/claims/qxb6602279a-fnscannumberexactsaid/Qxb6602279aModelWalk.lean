import Derived.Test.Qxb6602279aStepWalk
import Derived.Test.Qxb6602279aScan
import Derived.Test.Qxb6602279aClone
import Derived.Test.Qxb6602279aBytes
namespace Go.Proofs.Qxb6602279a
open Go.RowKit Plain

theorem stepP_bd (s : Nat) (c : Int) : -1 ≤ stepP s c ∧ stepP s c ≤ 8 := by
  unfold stepP step0 step1 step2 step3 step4 step5 step6 step7
  repeat' split
  all_goals omega

set_option maxHeartbeats 1000000 in
theorem acc_any (s : Nat) (hs : s ≤ 8) (w : World) :
    Calls Try.prog 31 #[.int .i64 (s : Int)] w fun e w' => e = .returned (.bool (acc s)) ∧ w' = w := by
  match s, hs with
  | 0, _ => (go_enter Try.func31, Try.ntmps31; go_wp2; go_ret; exact ⟨rfl, rfl⟩)
  | 1, _ => (go_enter Try.func31, Try.ntmps31; go_wp2; go_ret; exact ⟨rfl, rfl⟩)
  | 2, _ => (go_enter Try.func31, Try.ntmps31; go_wp2; go_ret; exact ⟨rfl, rfl⟩)
  | 3, _ => (go_enter Try.func31, Try.ntmps31; go_wp2; go_ret; exact ⟨rfl, rfl⟩)
  | 4, _ => (go_enter Try.func31, Try.ntmps31; go_wp2; go_ret; exact ⟨rfl, rfl⟩)
  | 5, _ => (go_enter Try.func31, Try.ntmps31; go_wp2; go_ret; exact ⟨rfl, rfl⟩)
  | 6, _ => (go_enter Try.func31, Try.ntmps31; go_wp2; go_ret; exact ⟨rfl, rfl⟩)
  | 7, _ => (go_enter Try.func31, Try.ntmps31; go_wp2; go_ret; exact ⟨rfl, rfl⟩)
  | 8, _ => (go_enter Try.func31, Try.ntmps31; go_wp2; go_ret; exact ⟨rfl, rfl⟩)
  | s + 9, h => omega

theorem ret_model {g : Nat → Int} {n i k s : Nat} (h : autoD g n 0 i = (k, s)) : Ending.returned (.tuple #[.int .i64 (k : Int), .bool (acc s)]) = .returned (.tuple #[.int .i64 ((scan g n i).1 : Int), .bool (scan g n i).2]) := by
  rw [← auto_scan, R, h]

set_option maxHeartbeats 1000000 in
theorem model_some (b off n c : Nat) (g : Nat → Int) (i : Nat) (w : World) (hn : n ≤ 9223372036854775807) (hi : i ≤ 9223372036854775807) (hc : ∀ j, j < n → w.cell? ⟨b, off + j, none⟩ = some (.int .u8 (g j))) :
    Calls Try.prog 13 #[.slice (some ⟨b, off, none⟩) n c, .int .i64 i] w fun e w' => e = .returned (.tuple #[.int .i64 (scan g n i).1, .bool (scan g n i).2]) ∧ w' = w := by
  go_enter Try.func13, Try.ntmps13
  go_wp2
  go_loop [6, 7] (fun u v => ∃ s k : Nat, s ≤ 8 ∧ k ≤ 9223372036854775807 ∧ u = .int .i64 s ∧ v = .int .i64 k ∧ Hid (autoD g n 0 i = autoD g n s k)) (fun _ v => n - (intOf v).toNat)
  case atStart => exact ⟨0, i, by omega, hi, rfl, rfl, rfl⟩
  case round =>
    obtain ⟨s, k, hs, hk, rfl, rfl, HA⟩ := hrel
    by_cases hlt : k < n
    · have hcell := hc k hlt
      have hb := stepP_bd s (g k)
      by_cases ht : stepP s (g k) < 0
      · have e1 : stepP s (g k) = -1 := by omega
        have HT : Hid (stepP s (g k) = -1) := e1
        have HF : Hid (autoD g n 0 i = (k, s)) := by show _ = _; rw [HA.out, autoD_stop (by omega)]
        clear e1 ht hb
        go_wp2_with (first | (go_at_call 30; refine (step_any s hs _ _).mono ?_; rw [HT.out]; rintro _ _ ⟨rfl, hw⟩; obtain rfl := hw.symm) | (go_at_call 31; refine (acc_any s hs _).mono ?_; rintro _ _ ⟨rfl, hw⟩; obtain rfl := hw.symm))
        go_ret2
        exact ⟨ret_model HF.out, rfl⟩
      · obtain ⟨t, e1⟩ : ∃ t : Nat, stepP s (g k) = t := ⟨(stepP s (g k)).toNat, by omega⟩
        have HT : Hid (stepP s (g k) = t) := e1
        have ht8 : t ≤ 8 := by omega
        have HF : Hid (autoD g n 0 i = autoD g n t (k + 1)) := by show _ = _; rw [HA.out, autoD_step hlt e1]
        clear e1 ht hb
        go_wp2_with (first | (go_at_call 30; refine (step_any s hs _ _).mono ?_; rw [HT.out]; rintro _ _ ⟨rfl, hw⟩; obtain rfl := hw.symm) | (go_at_call 31; refine (acc_any s hs _).mono ?_; rintro _ _ ⟨rfl, hw⟩; obtain rfl := hw.symm))
        go_round
        case rel => exact ⟨t, k + 1, ht8, by omega, rfl, by go_num, HF.out⟩
        case measure => simp [intOf]; omega
    · have HF : Hid (autoD g n 0 i = (k, s)) := by show _ = _; rw [HA.out, autoD_stop (by omega)]
      go_wp2_with (go_at_call 31; refine (acc_any s hs _).mono ?_; rintro _ _ ⟨rfl, hw⟩; obtain rfl := hw.symm)
      go_ret2
      exact ⟨ret_model HF.out, rfl⟩

set_option maxHeartbeats 1000000 in
theorem model_any (a : Option Addr) (n c : Nat) (g : Nat → Int) (i : Nat) (w : World) (hn : n ≤ maxLen) (hi : i ≤ 9223372036854775807) (hs : Seg w a n g) :
    Calls Try.prog 13 #[.slice a n c, .int .i64 i] w fun e w' => e = .returned (.tuple #[.int .i64 (scan g n i).1, .bool (scan g n i).2]) ∧ w' = w := by
  unfold maxLen at hn
  rcases hs with rfl | ⟨b, off, rfl, hc⟩
  · have HF : Hid (autoD g 0 0 i = (i, 0)) := autoD_stop (by omega)
    go_enter Try.func13, Try.ntmps13
    go_wp2
    go_loop [6, 7] (fun u v => u = .int .i64 0 ∧ v = .int .i64 i) (fun _ _ => 0)
    case atStart => exact ⟨rfl, rfl⟩
    case round =>
      obtain ⟨rfl, rfl⟩ := hrel
      go_wp2_with (go_at_call 31; refine (acc_any 0 (by omega) _).mono ?_; rintro _ _ ⟨rfl, hw⟩; obtain rfl := hw.symm)
      go_ret2
      exact ⟨ret_model HF.out, rfl⟩
  · exact model_some b off n c g i w (by omega) hi hc

theorem exact_long (a : Option Addr) (n c : Nat) (z : Int) (w : World) (h : 1048576 < n) :
    Calls Try.prog 3 #[.slice a n c, .int .i64 z] w fun e w' => e = .returned (.bool true) ∧ w' = w := by
  go_enter Try.func3, Try.ntmps3
  go_wp2_with (go_at_call 10; refine (bytes10_no _ _ _ _ _ h).mono ?_; rintro e w' ⟨rfl, rfl⟩)
  go_ret
  exact ⟨rfl, rfl⟩

theorem exact_neg (a : Option Addr) (n c : Nat) (z : Int) (w : World) (h : n ≤ 1048576) (hz : z < 0) :
    Calls Try.prog 3 #[.slice a n c, .int .i64 z] w fun e w' => e = .returned (.bool true) ∧ w' = w := by
  go_enter Try.func3, Try.ntmps3
  go_wp2_with (go_at_call 10; refine (bytes10_yes _ _ _ _ _ h).mono ?_; rintro e w' ⟨rfl, rfl⟩)
  go_ret
  exact ⟨rfl, rfl⟩

set_option maxHeartbeats 1000000 in
theorem exact_nil (i : Nat) (w : World) (hi : i ≤ 9223372036854775807) :
    Calls Try.prog 3 #[.slice none 0 0, .int .i64 i] w fun e w' => e = .returned (.bool true) ∧ w' = w := by
  have hS : Seg w none 0 (fun _ => 0) := .inl rfl
  have hm : 0 ≤ maxLen := by unfold maxLen; omega
  obtain ⟨e, ok, he⟩ : ∃ e ok, scan (fun _ => 0) 0 i = (e, ok) := ⟨_, _, rfl⟩
  have HE : Hid (scan (fun _ => 0) 0 i = (e, ok)) := he
  clear he
  cases ok
  all_goals
    go_enter Try.func3, Try.ntmps3
    go_wp2_with (first | (go_at_call 10; refine (bytes10_yes _ _ _ _ _ (by omega)).mono ?_; rintro _ _ ⟨rfl, hw⟩; obtain rfl := hw.symm) | (go_at_call 11; refine (clone_nil _).mono ?_; rintro _ _ ⟨rfl, hw⟩; obtain rfl := hw.symm) | (go_at_call 12; refine (zzscan_any _ _ _ (fun _ => 0) _ i rfl _ hm hi hS).mono ?_; rw [HE.out]; rintro _ _ ⟨rfl, hw⟩; obtain rfl := hw.symm) | (go_at_call 13; refine (model_any _ _ _ (fun _ => 0) i _ hm hi hS).mono ?_; rw [HE.out]; rintro _ _ ⟨rfl, hw⟩; obtain rfl := hw.symm))
    go_ret
    exact ⟨rfl, rfl⟩

set_option maxHeartbeats 1000000 in
theorem exact_some (x : Addr) (n c : Nat) (g : Nat → Int) (i : Nat) (w : World) (hn : n ≤ 1048576) (hi : i ≤ 9223372036854775807) (hx : ∀ j, j < n → w.cell? (x.add j) = some (.int .u8 (g j))) :
    Calls Try.prog 3 #[.slice (some x) n c, .int .i64 i] w fun e w' => e = .returned (.bool true) ∧ Below w.heap.size w w' := by
  have hm : n ≤ maxLen := by unfold maxLen; omega
  obtain ⟨e, ok, he⟩ : ∃ e ok, scan g n i = (e, ok) := ⟨_, _, rfl⟩
  have HE : Hid (scan g n i = (e, ok)) := he
  clear he
  cases ok
  all_goals
    go_enter Try.func3, Try.ntmps3
    go_wp2_with (first | (go_at_call 10; refine (bytes10_yes _ _ _ _ _ hn).mono ?_; rintro _ _ ⟨rfl, hw⟩; obtain rfl := hw.symm) | (go_at_call 11; refine (clone_some x _ c g _ hn hx).mono ?_; rintro _ w1 ⟨rfl, hc1, hbel, hsz⟩) | fail)
    have hS : Seg w1 (some ⟨w.heap.size, 0, none⟩) n g := .inr ⟨_, _, rfl, hc1⟩
    refine (zzscan_any _ _ _ g _ i rfl _ hm hi hS).mono ?_
    rw [HE.out]
    rintro _ _ ⟨rfl, hw⟩
    obtain rfl := hw.symm
    go_wp2_with (go_at_call 13; refine (model_any _ _ _ g i _ hm hi hS).mono ?_; rw [HE.out]; rintro _ _ ⟨rfl, hw⟩; obtain rfl := hw.symm)
    go_ret
    exact ⟨rfl, hbel⟩

end Go.Proofs.Qxb6602279a
