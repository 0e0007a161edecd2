import Derived.Test.Qxb6602279aBase
import Derived.Test.Qxb6602279aAutoPlain
namespace Go.Proofs.Qxb6602279a
open Go.RowKit Plain

theorem retB {a b : Bool} (h : a = b) : Ending.returned (.bool a) = .returned (.bool b) := by rw [h]

theorem isDig_any (c : Int) (w : World) :
    Calls Try.prog 24 #[.int .u8 c] w fun e w' => e = .returned (.bool (isDig c)) ∧ w' = w := by
  by_cases h0 : 48 ≤ c
  · by_cases h1 : c ≤ 57
    · have HC : Hid (isDig c = true) := isDig_iff.2 ⟨h0, h1⟩
      go_enter Try.func24, Try.ntmps24
      go_wp2
      go_ret
      exact ⟨retB HC.out.symm, rfl⟩
    · have HC : Hid (isDig c = false) := notDig (by omega)
      have hd : decide (c ≤ 57) = false := by simpa using h1
      go_enter Try.func24, Try.ntmps24
      go_wp2
      go_ret
      exact ⟨retB HC.out.symm, rfl⟩
  · have HC : Hid (isDig c = false) := notDig (by omega)
    go_enter Try.func24, Try.ntmps24
    go_wp2
    go_ret
    exact ⟨retB HC.out.symm, rfl⟩

theorem isExp_any (c : Int) (w : World) :
    Calls Try.prog 28 #[.int .u8 c] w fun e w' => e = .returned (.bool (isExp c)) ∧ w' = w := by
  cases h : (c == 101) with
  | true =>
    have HC : Hid (isExp c = true) := by show _ = _; rw [isExp, h]; rfl
    go_enter Try.func28, Try.ntmps28
    go_wp2
    go_ret
    exact ⟨retB HC.out.symm, rfl⟩
  | false =>
    cases h2 : (c == 69) with
    | true =>
      have HC : Hid (isExp c = true) := by show _ = _; rw [isExp, h, h2]; rfl
      go_enter Try.func28, Try.ntmps28
      go_wp2
      go_ret
      exact ⟨retB HC.out.symm, rfl⟩
    | false =>
      have HC : Hid (isExp c = false) := by show _ = _; rw [isExp, h, h2]; rfl
      go_enter Try.func28, Try.ntmps28
      go_wp2
      go_ret
      exact ⟨retB HC.out.symm, rfl⟩

set_option maxHeartbeats 1000000 in
theorem step_0 (c : Int) (w : World) :
    Calls Try.prog 30 #[.int .i64 0, .int .u8 c] w fun e w' => e = .returned (.int .i64 (stepP 0 c)) ∧ w' = w := by
  obtain ⟨dg, hdg⟩ : ∃ dg, isDig c = dg := ⟨_, rfl⟩
  have HD : Hid (isDig c = dg) := hdg
  obtain ⟨ex, hex⟩ : ∃ ex, isExp c = ex := ⟨_, rfl⟩
  have HE : Hid (isExp c = ex) := hex
  cases h45 : (c == 45) with
  | true =>
    have HC : Hid (stepP 0 c = 1) := by show step0 c = _; rw [step0, h45]; rfl
    go_enter Try.func30, Try.ntmps30
    go_wp2_with (first | (go_at_call 24; refine (isDig_any _ _).mono ?_; rw [HD.out]; rintro _ _ ⟨rfl, hw⟩; obtain rfl := hw.symm) | (go_at_call 28; refine (isExp_any _ _).mono ?_; rw [HE.out]; rintro _ _ ⟨rfl, hw⟩; obtain rfl := hw.symm))
    go_ret
    exact ⟨ret_int HC.out.symm, rfl⟩
  | false =>
    cases h48 : (c == 48) with
    | true =>
      have HC : Hid (stepP 0 c = 2) := by show step0 c = _; rw [step0, h45, h48]; rfl
      go_enter Try.func30, Try.ntmps30
      go_wp2_with (first | (go_at_call 24; refine (isDig_any _ _).mono ?_; rw [HD.out]; rintro _ _ ⟨rfl, hw⟩; obtain rfl := hw.symm) | (go_at_call 28; refine (isExp_any _ _).mono ?_; rw [HE.out]; rintro _ _ ⟨rfl, hw⟩; obtain rfl := hw.symm))
      go_ret
      exact ⟨ret_int HC.out.symm, rfl⟩
    | false =>
      cases dg with
      | true =>
        have HC : Hid (stepP 0 c = 3) := by show step0 c = _; rw [step0, h45, h48, hdg]; rfl
        go_enter Try.func30, Try.ntmps30
        go_wp2_with (first | (go_at_call 24; refine (isDig_any _ _).mono ?_; rw [HD.out]; rintro _ _ ⟨rfl, hw⟩; obtain rfl := hw.symm) | (go_at_call 28; refine (isExp_any _ _).mono ?_; rw [HE.out]; rintro _ _ ⟨rfl, hw⟩; obtain rfl := hw.symm))
        go_ret
        exact ⟨ret_int HC.out.symm, rfl⟩
      | false =>
        have HC : Hid (stepP 0 c = -1) := by show step0 c = _; rw [step0, h45, h48, hdg]; rfl
        go_enter Try.func30, Try.ntmps30
        go_wp2_with (first | (go_at_call 24; refine (isDig_any _ _).mono ?_; rw [HD.out]; rintro _ _ ⟨rfl, hw⟩; obtain rfl := hw.symm) | (go_at_call 28; refine (isExp_any _ _).mono ?_; rw [HE.out]; rintro _ _ ⟨rfl, hw⟩; obtain rfl := hw.symm))
        go_ret
        exact ⟨ret_int HC.out.symm, rfl⟩

set_option maxHeartbeats 1000000 in
theorem step_1 (c : Int) (w : World) :
    Calls Try.prog 30 #[.int .i64 1, .int .u8 c] w fun e w' => e = .returned (.int .i64 (stepP 1 c)) ∧ w' = w := by
  obtain ⟨dg, hdg⟩ : ∃ dg, isDig c = dg := ⟨_, rfl⟩
  have HD : Hid (isDig c = dg) := hdg
  obtain ⟨ex, hex⟩ : ∃ ex, isExp c = ex := ⟨_, rfl⟩
  have HE : Hid (isExp c = ex) := hex
  cases h48 : (c == 48) with
  | true =>
    have HC : Hid (stepP 1 c = 2) := by show step1 c = _; rw [step1, h48]; rfl
    go_enter Try.func30, Try.ntmps30
    go_wp2_with (first | (go_at_call 24; refine (isDig_any _ _).mono ?_; rw [HD.out]; rintro _ _ ⟨rfl, hw⟩; obtain rfl := hw.symm) | (go_at_call 28; refine (isExp_any _ _).mono ?_; rw [HE.out]; rintro _ _ ⟨rfl, hw⟩; obtain rfl := hw.symm))
    go_ret
    exact ⟨ret_int HC.out.symm, rfl⟩
  | false =>
    cases dg with
    | true =>
      have HC : Hid (stepP 1 c = 3) := by show step1 c = _; rw [step1, h48, hdg]; rfl
      go_enter Try.func30, Try.ntmps30
      go_wp2_with (first | (go_at_call 24; refine (isDig_any _ _).mono ?_; rw [HD.out]; rintro _ _ ⟨rfl, hw⟩; obtain rfl := hw.symm) | (go_at_call 28; refine (isExp_any _ _).mono ?_; rw [HE.out]; rintro _ _ ⟨rfl, hw⟩; obtain rfl := hw.symm))
      go_ret
      exact ⟨ret_int HC.out.symm, rfl⟩
    | false =>
      have HC : Hid (stepP 1 c = -1) := by show step1 c = _; rw [step1, h48, hdg]; rfl
      go_enter Try.func30, Try.ntmps30
      go_wp2_with (first | (go_at_call 24; refine (isDig_any _ _).mono ?_; rw [HD.out]; rintro _ _ ⟨rfl, hw⟩; obtain rfl := hw.symm) | (go_at_call 28; refine (isExp_any _ _).mono ?_; rw [HE.out]; rintro _ _ ⟨rfl, hw⟩; obtain rfl := hw.symm))
      go_ret
      exact ⟨ret_int HC.out.symm, rfl⟩

set_option maxHeartbeats 1000000 in
theorem step_2 (c : Int) (w : World) :
    Calls Try.prog 30 #[.int .i64 2, .int .u8 c] w fun e w' => e = .returned (.int .i64 (stepP 2 c)) ∧ w' = w := by
  obtain ⟨dg, hdg⟩ : ∃ dg, isDig c = dg := ⟨_, rfl⟩
  have HD : Hid (isDig c = dg) := hdg
  obtain ⟨ex, hex⟩ : ∃ ex, isExp c = ex := ⟨_, rfl⟩
  have HE : Hid (isExp c = ex) := hex
  cases h46 : (c == 46) with
  | true =>
    have HC : Hid (stepP 2 c = 4) := by show step2 c = _; rw [step2, h46]; rfl
    go_enter Try.func30, Try.ntmps30
    go_wp2_with (first | (go_at_call 24; refine (isDig_any _ _).mono ?_; rw [HD.out]; rintro _ _ ⟨rfl, hw⟩; obtain rfl := hw.symm) | (go_at_call 28; refine (isExp_any _ _).mono ?_; rw [HE.out]; rintro _ _ ⟨rfl, hw⟩; obtain rfl := hw.symm))
    go_ret
    exact ⟨ret_int HC.out.symm, rfl⟩
  | false =>
    cases ex with
    | true =>
      have HC : Hid (stepP 2 c = 6) := by show step2 c = _; rw [step2, h46, hex]; rfl
      go_enter Try.func30, Try.ntmps30
      go_wp2_with (first | (go_at_call 24; refine (isDig_any _ _).mono ?_; rw [HD.out]; rintro _ _ ⟨rfl, hw⟩; obtain rfl := hw.symm) | (go_at_call 28; refine (isExp_any _ _).mono ?_; rw [HE.out]; rintro _ _ ⟨rfl, hw⟩; obtain rfl := hw.symm))
      go_ret
      exact ⟨ret_int HC.out.symm, rfl⟩
    | false =>
      have HC : Hid (stepP 2 c = -1) := by show step2 c = _; rw [step2, h46, hex]; rfl
      go_enter Try.func30, Try.ntmps30
      go_wp2_with (first | (go_at_call 24; refine (isDig_any _ _).mono ?_; rw [HD.out]; rintro _ _ ⟨rfl, hw⟩; obtain rfl := hw.symm) | (go_at_call 28; refine (isExp_any _ _).mono ?_; rw [HE.out]; rintro _ _ ⟨rfl, hw⟩; obtain rfl := hw.symm))
      go_ret
      exact ⟨ret_int HC.out.symm, rfl⟩

set_option maxHeartbeats 1000000 in
theorem step_3 (c : Int) (w : World) :
    Calls Try.prog 30 #[.int .i64 3, .int .u8 c] w fun e w' => e = .returned (.int .i64 (stepP 3 c)) ∧ w' = w := by
  obtain ⟨dg, hdg⟩ : ∃ dg, isDig c = dg := ⟨_, rfl⟩
  have HD : Hid (isDig c = dg) := hdg
  obtain ⟨ex, hex⟩ : ∃ ex, isExp c = ex := ⟨_, rfl⟩
  have HE : Hid (isExp c = ex) := hex
  cases dg with
  | true =>
    have HC : Hid (stepP 3 c = 3) := by show step3 c = _; rw [step3, hdg]; rfl
    go_enter Try.func30, Try.ntmps30
    go_wp2_with (first | (go_at_call 24; refine (isDig_any _ _).mono ?_; rw [HD.out]; rintro _ _ ⟨rfl, hw⟩; obtain rfl := hw.symm) | (go_at_call 28; refine (isExp_any _ _).mono ?_; rw [HE.out]; rintro _ _ ⟨rfl, hw⟩; obtain rfl := hw.symm))
    go_ret
    exact ⟨ret_int HC.out.symm, rfl⟩
  | false =>
    cases h46 : (c == 46) with
    | true =>
      have HC : Hid (stepP 3 c = 4) := by show step3 c = _; rw [step3, hdg, h46]; rfl
      go_enter Try.func30, Try.ntmps30
      go_wp2_with (first | (go_at_call 24; refine (isDig_any _ _).mono ?_; rw [HD.out]; rintro _ _ ⟨rfl, hw⟩; obtain rfl := hw.symm) | (go_at_call 28; refine (isExp_any _ _).mono ?_; rw [HE.out]; rintro _ _ ⟨rfl, hw⟩; obtain rfl := hw.symm))
      go_ret
      exact ⟨ret_int HC.out.symm, rfl⟩
    | false =>
      cases ex with
      | true =>
        have HC : Hid (stepP 3 c = 6) := by show step3 c = _; rw [step3, hdg, h46, hex]; rfl
        go_enter Try.func30, Try.ntmps30
        go_wp2_with (first | (go_at_call 24; refine (isDig_any _ _).mono ?_; rw [HD.out]; rintro _ _ ⟨rfl, hw⟩; obtain rfl := hw.symm) | (go_at_call 28; refine (isExp_any _ _).mono ?_; rw [HE.out]; rintro _ _ ⟨rfl, hw⟩; obtain rfl := hw.symm))
        go_ret
        exact ⟨ret_int HC.out.symm, rfl⟩
      | false =>
        have HC : Hid (stepP 3 c = -1) := by show step3 c = _; rw [step3, hdg, h46, hex]; rfl
        go_enter Try.func30, Try.ntmps30
        go_wp2_with (first | (go_at_call 24; refine (isDig_any _ _).mono ?_; rw [HD.out]; rintro _ _ ⟨rfl, hw⟩; obtain rfl := hw.symm) | (go_at_call 28; refine (isExp_any _ _).mono ?_; rw [HE.out]; rintro _ _ ⟨rfl, hw⟩; obtain rfl := hw.symm))
        go_ret
        exact ⟨ret_int HC.out.symm, rfl⟩

set_option maxHeartbeats 1000000 in
theorem step_4 (c : Int) (w : World) :
    Calls Try.prog 30 #[.int .i64 4, .int .u8 c] w fun e w' => e = .returned (.int .i64 (stepP 4 c)) ∧ w' = w := by
  obtain ⟨dg, hdg⟩ : ∃ dg, isDig c = dg := ⟨_, rfl⟩
  have HD : Hid (isDig c = dg) := hdg
  obtain ⟨ex, hex⟩ : ∃ ex, isExp c = ex := ⟨_, rfl⟩
  have HE : Hid (isExp c = ex) := hex
  cases dg with
  | true =>
    have HC : Hid (stepP 4 c = 5) := by show step4 c = _; rw [step4, hdg]; rfl
    go_enter Try.func30, Try.ntmps30
    go_wp2_with (first | (go_at_call 24; refine (isDig_any _ _).mono ?_; rw [HD.out]; rintro _ _ ⟨rfl, hw⟩; obtain rfl := hw.symm) | (go_at_call 28; refine (isExp_any _ _).mono ?_; rw [HE.out]; rintro _ _ ⟨rfl, hw⟩; obtain rfl := hw.symm))
    go_ret
    exact ⟨ret_int HC.out.symm, rfl⟩
  | false =>
    have HC : Hid (stepP 4 c = -1) := by show step4 c = _; rw [step4, hdg]; rfl
    go_enter Try.func30, Try.ntmps30
    go_wp2_with (first | (go_at_call 24; refine (isDig_any _ _).mono ?_; rw [HD.out]; rintro _ _ ⟨rfl, hw⟩; obtain rfl := hw.symm) | (go_at_call 28; refine (isExp_any _ _).mono ?_; rw [HE.out]; rintro _ _ ⟨rfl, hw⟩; obtain rfl := hw.symm))
    go_ret
    exact ⟨ret_int HC.out.symm, rfl⟩

set_option maxHeartbeats 1000000 in
theorem step_5 (c : Int) (w : World) :
    Calls Try.prog 30 #[.int .i64 5, .int .u8 c] w fun e w' => e = .returned (.int .i64 (stepP 5 c)) ∧ w' = w := by
  obtain ⟨dg, hdg⟩ : ∃ dg, isDig c = dg := ⟨_, rfl⟩
  have HD : Hid (isDig c = dg) := hdg
  obtain ⟨ex, hex⟩ : ∃ ex, isExp c = ex := ⟨_, rfl⟩
  have HE : Hid (isExp c = ex) := hex
  cases dg with
  | true =>
    have HC : Hid (stepP 5 c = 5) := by show step5 c = _; rw [step5, hdg]; rfl
    go_enter Try.func30, Try.ntmps30
    go_wp2_with (first | (go_at_call 24; refine (isDig_any _ _).mono ?_; rw [HD.out]; rintro _ _ ⟨rfl, hw⟩; obtain rfl := hw.symm) | (go_at_call 28; refine (isExp_any _ _).mono ?_; rw [HE.out]; rintro _ _ ⟨rfl, hw⟩; obtain rfl := hw.symm))
    go_ret
    exact ⟨ret_int HC.out.symm, rfl⟩
  | false =>
    cases ex with
    | true =>
      have HC : Hid (stepP 5 c = 6) := by show step5 c = _; rw [step5, hdg, hex]; rfl
      go_enter Try.func30, Try.ntmps30
      go_wp2_with (first | (go_at_call 24; refine (isDig_any _ _).mono ?_; rw [HD.out]; rintro _ _ ⟨rfl, hw⟩; obtain rfl := hw.symm) | (go_at_call 28; refine (isExp_any _ _).mono ?_; rw [HE.out]; rintro _ _ ⟨rfl, hw⟩; obtain rfl := hw.symm))
      go_ret
      exact ⟨ret_int HC.out.symm, rfl⟩
    | false =>
      have HC : Hid (stepP 5 c = -1) := by show step5 c = _; rw [step5, hdg, hex]; rfl
      go_enter Try.func30, Try.ntmps30
      go_wp2_with (first | (go_at_call 24; refine (isDig_any _ _).mono ?_; rw [HD.out]; rintro _ _ ⟨rfl, hw⟩; obtain rfl := hw.symm) | (go_at_call 28; refine (isExp_any _ _).mono ?_; rw [HE.out]; rintro _ _ ⟨rfl, hw⟩; obtain rfl := hw.symm))
      go_ret
      exact ⟨ret_int HC.out.symm, rfl⟩

set_option maxHeartbeats 1000000 in
theorem step_7 (c : Int) (w : World) :
    Calls Try.prog 30 #[.int .i64 7, .int .u8 c] w fun e w' => e = .returned (.int .i64 (stepP 7 c)) ∧ w' = w := by
  obtain ⟨dg, hdg⟩ : ∃ dg, isDig c = dg := ⟨_, rfl⟩
  have HD : Hid (isDig c = dg) := hdg
  obtain ⟨ex, hex⟩ : ∃ ex, isExp c = ex := ⟨_, rfl⟩
  have HE : Hid (isExp c = ex) := hex
  cases dg with
  | true =>
    have HC : Hid (stepP 7 c = 8) := by show step7 c = _; rw [step7, hdg]; rfl
    go_enter Try.func30, Try.ntmps30
    go_wp2_with (first | (go_at_call 24; refine (isDig_any _ _).mono ?_; rw [HD.out]; rintro _ _ ⟨rfl, hw⟩; obtain rfl := hw.symm) | (go_at_call 28; refine (isExp_any _ _).mono ?_; rw [HE.out]; rintro _ _ ⟨rfl, hw⟩; obtain rfl := hw.symm))
    go_ret
    exact ⟨ret_int HC.out.symm, rfl⟩
  | false =>
    have HC : Hid (stepP 7 c = -1) := by show step7 c = _; rw [step7, hdg]; rfl
    go_enter Try.func30, Try.ntmps30
    go_wp2_with (first | (go_at_call 24; refine (isDig_any _ _).mono ?_; rw [HD.out]; rintro _ _ ⟨rfl, hw⟩; obtain rfl := hw.symm) | (go_at_call 28; refine (isExp_any _ _).mono ?_; rw [HE.out]; rintro _ _ ⟨rfl, hw⟩; obtain rfl := hw.symm))
    go_ret
    exact ⟨ret_int HC.out.symm, rfl⟩

set_option maxHeartbeats 1000000 in
theorem step_8 (c : Int) (w : World) :
    Calls Try.prog 30 #[.int .i64 8, .int .u8 c] w fun e w' => e = .returned (.int .i64 (stepP 8 c)) ∧ w' = w := by
  obtain ⟨dg, hdg⟩ : ∃ dg, isDig c = dg := ⟨_, rfl⟩
  have HD : Hid (isDig c = dg) := hdg
  obtain ⟨ex, hex⟩ : ∃ ex, isExp c = ex := ⟨_, rfl⟩
  have HE : Hid (isExp c = ex) := hex
  cases dg with
  | true =>
    have HC : Hid (stepP 8 c = 8) := by show step7 c = _; rw [step7, hdg]; rfl
    go_enter Try.func30, Try.ntmps30
    go_wp2_with (first | (go_at_call 24; refine (isDig_any _ _).mono ?_; rw [HD.out]; rintro _ _ ⟨rfl, hw⟩; obtain rfl := hw.symm) | (go_at_call 28; refine (isExp_any _ _).mono ?_; rw [HE.out]; rintro _ _ ⟨rfl, hw⟩; obtain rfl := hw.symm))
    go_ret
    exact ⟨ret_int HC.out.symm, rfl⟩
  | false =>
    have HC : Hid (stepP 8 c = -1) := by show step7 c = _; rw [step7, hdg]; rfl
    go_enter Try.func30, Try.ntmps30
    go_wp2_with (first | (go_at_call 24; refine (isDig_any _ _).mono ?_; rw [HD.out]; rintro _ _ ⟨rfl, hw⟩; obtain rfl := hw.symm) | (go_at_call 28; refine (isExp_any _ _).mono ?_; rw [HE.out]; rintro _ _ ⟨rfl, hw⟩; obtain rfl := hw.symm))
    go_ret
    exact ⟨ret_int HC.out.symm, rfl⟩

set_option maxHeartbeats 1000000 in
theorem step_6 (c : Int) (w : World) :
    Calls Try.prog 30 #[.int .i64 6, .int .u8 c] w fun e w' => e = .returned (.int .i64 (stepP 6 c)) ∧ w' = w := by
  obtain ⟨dg, hdg⟩ : ∃ dg, isDig c = dg := ⟨_, rfl⟩
  have HD : Hid (isDig c = dg) := hdg
  cases h43 : (c == 43) with
  | true =>
    have HC : Hid (stepP 6 c = 7) := by show step6 c = _; rw [step6, isPM, h43]; rfl
    go_enter Try.func30, Try.ntmps30
    go_wp2_with (go_at_call 24; refine (isDig_any _ _).mono ?_; rw [HD.out]; rintro _ _ ⟨rfl, hw⟩; obtain rfl := hw.symm)
    go_ret
    exact ⟨ret_int HC.out.symm, rfl⟩
  | false =>
    cases h45 : (c == 45) with
    | true =>
      have HC : Hid (stepP 6 c = 7) := by show step6 c = _; rw [step6, isPM, h43, h45]; rfl
      go_enter Try.func30, Try.ntmps30
      go_wp2_with (go_at_call 24; refine (isDig_any _ _).mono ?_; rw [HD.out]; rintro _ _ ⟨rfl, hw⟩; obtain rfl := hw.symm)
      go_ret
      exact ⟨ret_int HC.out.symm, rfl⟩
    | false =>
      cases dg with
      | true =>
        have HC : Hid (stepP 6 c = 8) := by show step6 c = _; rw [step6, isPM, h43, h45, hdg]; rfl
        go_enter Try.func30, Try.ntmps30
        go_wp2_with (go_at_call 24; refine (isDig_any _ _).mono ?_; rw [HD.out]; rintro _ _ ⟨rfl, hw⟩; obtain rfl := hw.symm)
        go_ret
        exact ⟨ret_int HC.out.symm, rfl⟩
      | false =>
        have HC : Hid (stepP 6 c = -1) := by show step6 c = _; rw [step6, isPM, h43, h45, hdg]; rfl
        go_enter Try.func30, Try.ntmps30
        go_wp2_with (go_at_call 24; refine (isDig_any _ _).mono ?_; rw [HD.out]; rintro _ _ ⟨rfl, hw⟩; obtain rfl := hw.symm)
        go_ret
        exact ⟨ret_int HC.out.symm, rfl⟩

theorem step_any (s : Nat) (hs : s ≤ 8) (c : Int) (w : World) :
    Calls Try.prog 30 #[.int .i64 (s : Int), .int .u8 c] w fun e w' => e = .returned (.int .i64 (stepP s c)) ∧ w' = w := by
  match s, hs with
  | 0, _ => exact step_0 c w
  | 1, _ => exact step_1 c w
  | 2, _ => exact step_2 c w
  | 3, _ => exact step_3 c w
  | 4, _ => exact step_4 c w
  | 5, _ => exact step_5 c w
  | 6, _ => exact step_6 c w
  | 7, _ => exact step_7 c w
  | 8, _ => exact step_8 c w
  | s + 9, h => omega

end Go.Proofs.Qxb6602279a
