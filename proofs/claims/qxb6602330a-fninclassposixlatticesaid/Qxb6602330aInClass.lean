import Derived.Test.Qxb6602330aRows
import Derived.Test.Qxb6602330aPlain
import Derived.WalkKit
import Derived.WalkSpells
import Derived.WalkLawsBesides
import Derived.Deep.CutRange
namespace Go.Proofs.Qxb6602330a
open Go.RowKit Plain

theorem ret_cls {l : List UInt8} {c : Int} {k : Nat} {a b : Bool} (hk : kindOf l = k) (ha : a = inK k c) (hb : b = decide (k < 12)) :
    Ending.returned (.tuple #[.bool a, .bool b]) = .returned (.tuple #[.bool (inK (kindOf l) c), .bool (decide (kindOf l < 12))]) := by
  rw [hk, ha, hb]

set_option maxRecDepth 20000 in
set_option maxHeartbeats 4000000 in
theorem inClass_any (name : ByteArray) (c : Int) (w : World) :
    Calls Try.prog 25 #[.string name, .int .u8 c] w fun e w' => e = .returned (.tuple #[.bool (inK (kindOf name.toList) c), .bool (decide (kindOf name.toList < 12))]) ∧ w' = w := by
  go_enter Try.func25, Try.ntmps25
  go_upto_region 1 with fail
  go_cut [6] from 10 to 15 (fun t wx => t = .bool (up c) ∧ w = wx)
  case first =>
    by_cases h1 : 65 ≤ c
    · by_cases h2 : c ≤ 90
      · have ht : Hid (up c = true) := two h1 h2
        go_wp2
        go_meet
        exact ⟨by rw [ht.out], rfl⟩
      · have ht : Hid (up c = false) := two_hi h2
        have hd : decide (c ≤ 90) = false := decide_eq_false h2
        go_wp2
        go_meet
        exact ⟨by rw [ht.out], rfl⟩
    · have ht : Hid (up c = false) := two_lo h1
      go_wp2
      go_meet
      exact ⟨by rw [ht.out], rfl⟩
  case rest =>
    obtain ⟨rfl, rfl⟩ := hcut
    go_upto_region 2 with fail
    go_cut [7] from 16 to 21 (fun t wx => t = .bool (lo c) ∧ w = wx)
    case first =>
      by_cases h1 : 97 ≤ c
      · by_cases h2 : c ≤ 122
        · have ht : Hid (lo c = true) := two h1 h2
          go_wp2
          go_meet
          exact ⟨by rw [ht.out], rfl⟩
        · have ht : Hid (lo c = false) := two_hi h2
          have hd : decide (c ≤ 122) = false := decide_eq_false h2
          go_wp2
          go_meet
          exact ⟨by rw [ht.out], rfl⟩
      · have ht : Hid (lo c = false) := two_lo h1
        go_wp2
        go_meet
        exact ⟨by rw [ht.out], rfl⟩
    case rest =>
      obtain ⟨rfl, rfl⟩ := hcut
      go_upto_region 3 with fail
      go_cut [8] from 22 to 27 (fun t wx => t = .bool (dg c) ∧ w = wx)
      case first =>
        by_cases h1 : 48 ≤ c
        · by_cases h2 : c ≤ 57
          · have ht : Hid (dg c = true) := two h1 h2
            go_wp2
            go_meet
            exact ⟨by rw [ht.out], rfl⟩
          · have ht : Hid (dg c = false) := two_hi h2
            have hd : decide (c ≤ 57) = false := decide_eq_false h2
            go_wp2
            go_meet
            exact ⟨by rw [ht.out], rfl⟩
        · have ht : Hid (dg c = false) := two_lo h1
          go_wp2
          go_meet
          exact ⟨by rw [ht.out], rfl⟩
      case rest =>
        obtain ⟨rfl, rfl⟩ := hcut
        go_upto_region 4 with fail
        go_cut [9] from 28 to 33 (fun t wx => t = .bool (gr c) ∧ w = wx)
        case first =>
          by_cases h1 : 33 ≤ c
          · by_cases h2 : c ≤ 126
            · have ht : Hid (gr c = true) := two h1 h2
              go_wp2
              go_meet
              exact ⟨by rw [ht.out], rfl⟩
            · have ht : Hid (gr c = false) := two_hi h2
              have hd : decide (c ≤ 126) = false := decide_eq_false h2
              go_wp2
              go_meet
              exact ⟨by rw [ht.out], rfl⟩
          · have ht : Hid (gr c = false) := two_lo h1
            go_wp2
            go_meet
            exact ⟨by rw [ht.out], rfl⟩
        case rest =>
          obtain ⟨rfl, rfl⟩ := hcut
          cases e0 : (name.toList == [97, 108, 110, 117, 109]) with
          | true =>
            have HK : Hid (kindOf name.toList = 0) := by show _ = _; rw [kindOf, e0]; rfl
            cases hu : up c with
            | true =>
              have HV : Hid (inK 0 c = true) := by show _ = _; simp [inK, hu]
              go_wp2
              go_ret2
              exact ⟨ret_cls HK.out HV.out.symm rfl, rfl⟩
            | false =>
              cases hl : lo c with
              | true =>
                have HV : Hid (inK 0 c = true) := by show _ = _; simp [inK, hu, hl]
                go_wp2
                go_ret2
                exact ⟨ret_cls HK.out HV.out.symm rfl, rfl⟩
              | false =>
                cases hg : dg c with
                | true =>
                  have HV : Hid (inK 0 c = true) := by show _ = _; simp [inK, hu, hl, hg]
                  go_wp2
                  go_ret2
                  exact ⟨ret_cls HK.out HV.out.symm rfl, rfl⟩
                | false =>
                  have HV : Hid (inK 0 c = false) := by show _ = _; simp [inK, hu, hl, hg]
                  go_wp2
                  go_ret2
                  exact ⟨ret_cls HK.out HV.out.symm rfl, rfl⟩
          | false =>
            cases e1 : (name.toList == [97, 108, 112, 104, 97]) with
            | true =>
              have HK : Hid (kindOf name.toList = 1) := by show _ = _; rw [kindOf, e0, e1]; rfl
              cases hu : up c with
              | true =>
                have HV : Hid (inK 1 c = true) := by show _ = _; simp [inK, hu]
                go_wp2
                go_ret2
                exact ⟨ret_cls HK.out HV.out.symm rfl, rfl⟩
              | false =>
                cases hl : lo c with
                | true =>
                  have HV : Hid (inK 1 c = true) := by show _ = _; simp [inK, hu, hl]
                  go_wp2
                  go_ret2
                  exact ⟨ret_cls HK.out HV.out.symm rfl, rfl⟩
                | false =>
                  have HV : Hid (inK 1 c = false) := by show _ = _; simp [inK, hu, hl]
                  go_wp2
                  go_ret2
                  exact ⟨ret_cls HK.out HV.out.symm rfl, rfl⟩
            | false =>
              cases e2 : (name.toList == [98, 108, 97, 110, 107]) with
              | true =>
                have HK : Hid (kindOf name.toList = 2) := by show _ = _; rw [kindOf, e0, e1, e2]; rfl
                cases q32 : (c == 32) with
                | true =>
                  have HV : Hid (inK 2 c = true) := by show _ = _; simp [inK, q32]
                  go_wp2
                  go_ret2
                  exact ⟨ret_cls HK.out HV.out.symm rfl, rfl⟩
                | false =>
                  cases q9 : (c == 9) with
                  | true =>
                    have HV : Hid (inK 2 c = true) := by show _ = _; simp [inK, q32, q9]
                    go_wp2
                    go_ret2
                    exact ⟨ret_cls HK.out HV.out.symm rfl, rfl⟩
                  | false =>
                    have HV : Hid (inK 2 c = false) := by show _ = _; simp [inK, q32, q9]
                    go_wp2
                    go_ret2
                    exact ⟨ret_cls HK.out HV.out.symm rfl, rfl⟩
              | false =>
                cases e3 : (name.toList == [99, 110, 116, 114, 108]) with
                | true =>
                  have HK : Hid (kindOf name.toList = 3) := by show _ = _; rw [kindOf, e0, e1, e2, e3]; rfl
                  by_cases q1 : c < 32
                  · have q1d : decide (c < 32) = true := decide_eq_true q1
                    have HV : Hid (inK 3 c = true) := by show _ = _; simp [inK, q1]
                    go_wp2
                    go_ret2
                    exact ⟨ret_cls HK.out HV.out.symm rfl, rfl⟩
                  · have q1d : decide (c < 32) = false := decide_eq_false q1
                    cases q127 : (c == 127) with
                    | true =>
                      have HV : Hid (inK 3 c = true) := by show _ = _; simp [inK, q1, q127]
                      go_wp2
                      go_ret2
                      exact ⟨ret_cls HK.out HV.out.symm rfl, rfl⟩
                    | false =>
                      have HV : Hid (inK 3 c = false) := by show _ = _; simp [inK, q1, q127]
                      go_wp2
                      go_ret2
                      exact ⟨ret_cls HK.out HV.out.symm rfl, rfl⟩
                | false =>
                  cases e4 : (name.toList == [100, 105, 103, 105, 116]) with
                  | true =>
                    have HK : Hid (kindOf name.toList = 4) := by show _ = _; rw [kindOf, e0, e1, e2, e3, e4]; rfl
                    cases hg : dg c with
                    | true =>
                      have HV : Hid (inK 4 c = true) := by show _ = _; simp [inK, hg]
                      go_wp2
                      go_ret2
                      exact ⟨ret_cls HK.out HV.out.symm rfl, rfl⟩
                    | false =>
                      have HV : Hid (inK 4 c = false) := by show _ = _; simp [inK, hg]
                      go_wp2
                      go_ret2
                      exact ⟨ret_cls HK.out HV.out.symm rfl, rfl⟩
                  | false =>
                    cases e5 : (name.toList == [103, 114, 97, 112, 104]) with
                    | true =>
                      have HK : Hid (kindOf name.toList = 5) := by show _ = _; rw [kindOf, e0, e1, e2, e3, e4, e5]; rfl
                      cases hr : gr c with
                      | true =>
                        have HV : Hid (inK 5 c = true) := by show _ = _; simp [inK, hr]
                        go_wp2
                        go_ret2
                        exact ⟨ret_cls HK.out HV.out.symm rfl, rfl⟩
                      | false =>
                        have HV : Hid (inK 5 c = false) := by show _ = _; simp [inK, hr]
                        go_wp2
                        go_ret2
                        exact ⟨ret_cls HK.out HV.out.symm rfl, rfl⟩
                    | false =>
                      cases e6 : (name.toList == [108, 111, 119, 101, 114]) with
                      | true =>
                        have HK : Hid (kindOf name.toList = 6) := by show _ = _; rw [kindOf, e0, e1, e2, e3, e4, e5, e6]; rfl
                        cases hl : lo c with
                        | true =>
                          have HV : Hid (inK 6 c = true) := by show _ = _; simp [inK, hl]
                          go_wp2
                          go_ret2
                          exact ⟨ret_cls HK.out HV.out.symm rfl, rfl⟩
                        | false =>
                          have HV : Hid (inK 6 c = false) := by show _ = _; simp [inK, hl]
                          go_wp2
                          go_ret2
                          exact ⟨ret_cls HK.out HV.out.symm rfl, rfl⟩
                      | false =>
                        cases e7 : (name.toList == [112, 114, 105, 110, 116]) with
                        | true =>
                          have HK : Hid (kindOf name.toList = 7) := by show _ = _; rw [kindOf, e0, e1, e2, e3, e4, e5, e6, e7]; rfl
                          cases hr : gr c with
                          | true =>
                            have HV : Hid (inK 7 c = true) := by show _ = _; simp [inK, hr]
                            go_wp2
                            go_ret2
                            exact ⟨ret_cls HK.out HV.out.symm rfl, rfl⟩
                          | false =>
                            cases q32 : (c == 32) with
                            | true =>
                              have HV : Hid (inK 7 c = true) := by show _ = _; simp [inK, hr, q32]
                              go_wp2
                              go_ret2
                              exact ⟨ret_cls HK.out HV.out.symm rfl, rfl⟩
                            | false =>
                              have HV : Hid (inK 7 c = false) := by show _ = _; simp [inK, hr, q32]
                              go_wp2
                              go_ret2
                              exact ⟨ret_cls HK.out HV.out.symm rfl, rfl⟩
                        | false =>
                          cases e8 : (name.toList == [112, 117, 110, 99, 116]) with
                          | true =>
                            have HK : Hid (kindOf name.toList = 8) := by show _ = _; rw [kindOf, e0, e1, e2, e3, e4, e5, e6, e7, e8]; rfl
                            cases hr : gr c with
                            | true =>
                              cases hu : up c with
                              | true =>
                                have HV : Hid (inK 8 c = false) := by show _ = _; simp [inK, hr, hu]
                                go_wp2
                                go_ret2
                                exact ⟨ret_cls HK.out HV.out.symm rfl, rfl⟩
                              | false =>
                                cases hl : lo c with
                                | true =>
                                  have HV : Hid (inK 8 c = false) := by show _ = _; simp [inK, hr, hu, hl]
                                  go_wp2
                                  go_ret2
                                  exact ⟨ret_cls HK.out HV.out.symm rfl, rfl⟩
                                | false =>
                                  cases hg : dg c with
                                  | true =>
                                    have HV : Hid (inK 8 c = false) := by show _ = _; simp [inK, hr, hu, hl, hg]
                                    go_wp2
                                    go_ret2
                                    exact ⟨ret_cls HK.out HV.out.symm rfl, rfl⟩
                                  | false =>
                                    have HV : Hid (inK 8 c = true) := by show _ = _; simp [inK, hr, hu, hl, hg]
                                    go_wp2
                                    go_ret2
                                    exact ⟨ret_cls HK.out HV.out.symm rfl, rfl⟩
                            | false =>
                              have HV : Hid (inK 8 c = false) := by show _ = _; simp [inK, hr]
                              go_wp2
                              go_ret2
                              exact ⟨ret_cls HK.out HV.out.symm rfl, rfl⟩
                          | false =>
                            cases e9 : (name.toList == [115, 112, 97, 99, 101]) with
                            | true =>
                              have HK : Hid (kindOf name.toList = 9) := by show _ = _; rw [kindOf, e0, e1, e2, e3, e4, e5, e6, e7, e8, e9]; rfl
                              cases q32 : (c == 32) with
                              | true =>
                                have HV : Hid (inK 9 c = true) := by show _ = _; simp [inK, q32]
                                go_wp2
                                go_ret2
                                exact ⟨ret_cls HK.out HV.out.symm rfl, rfl⟩
                              | false =>
                                by_cases q9 : 9 ≤ c
                                · have q9d : decide (9 ≤ c) = true := decide_eq_true q9
                                  by_cases q13 : c ≤ 13
                                  · have q13d : decide (c ≤ 13) = true := decide_eq_true q13
                                    have HV : Hid (inK 9 c = true) := by show _ = _; simp [inK, q32, q9, q13]
                                    go_wp2
                                    go_ret2
                                    exact ⟨ret_cls HK.out HV.out.symm rfl, rfl⟩
                                  · have q13d : decide (c ≤ 13) = false := decide_eq_false q13
                                    have HV : Hid (inK 9 c = false) := by show _ = _; simp [inK, q32, q9, q13]
                                    go_wp2
                                    go_ret2
                                    exact ⟨ret_cls HK.out HV.out.symm rfl, rfl⟩
                                · have q9d : decide (9 ≤ c) = false := decide_eq_false q9
                                  have HV : Hid (inK 9 c = false) := by show _ = _; simp [inK, q32, q9]
                                  go_wp2
                                  go_ret2
                                  exact ⟨ret_cls HK.out HV.out.symm rfl, rfl⟩
                            | false =>
                              cases e10 : (name.toList == [117, 112, 112, 101, 114]) with
                              | true =>
                                have HK : Hid (kindOf name.toList = 10) := by show _ = _; rw [kindOf, e0, e1, e2, e3, e4, e5, e6, e7, e8, e9, e10]; rfl
                                cases hu : up c with
                                | true =>
                                  have HV : Hid (inK 10 c = true) := by show _ = _; simp [inK, hu]
                                  go_wp2
                                  go_ret2
                                  exact ⟨ret_cls HK.out HV.out.symm rfl, rfl⟩
                                | false =>
                                  have HV : Hid (inK 10 c = false) := by show _ = _; simp [inK, hu]
                                  go_wp2
                                  go_ret2
                                  exact ⟨ret_cls HK.out HV.out.symm rfl, rfl⟩
                              | false =>
                                cases e11 : (name.toList == [120, 100, 105, 103, 105, 116]) with
                                | true =>
                                  have HK : Hid (kindOf name.toList = 11) := by show _ = _; rw [kindOf, e0, e1, e2, e3, e4, e5, e6, e7, e8, e9, e10, e11]; rfl
                                  cases hg : dg c with
                                  | true =>
                                    have HV : Hid (inK 11 c = true) := by show _ = _; simp [inK, hg]
                                    go_wp2
                                    go_ret2
                                    exact ⟨ret_cls HK.out HV.out.symm rfl, rfl⟩
                                  | false =>
                                    by_cases q97 : 97 ≤ c
                                    · have q97d : decide (97 ≤ c) = true := decide_eq_true q97
                                      by_cases q102 : c ≤ 102
                                      · have q102d : decide (c ≤ 102) = true := decide_eq_true q102
                                        have HV : Hid (inK 11 c = true) := by show _ = _; simp [inK, hg, q97, q102]
                                        go_wp2
                                        go_ret2
                                        exact ⟨ret_cls HK.out HV.out.symm rfl, rfl⟩
                                      · have q102d : decide (c ≤ 102) = false := decide_eq_false q102
                                        by_cases q65 : 65 ≤ c
                                        · have q65d : decide (65 ≤ c) = true := decide_eq_true q65
                                          by_cases q70 : c ≤ 70
                                          · have q70d : decide (c ≤ 70) = true := decide_eq_true q70
                                            have HV : Hid (inK 11 c = true) := by show _ = _; simp [inK, hg, q97, q102, q65, q70]
                                            go_wp2
                                            go_ret2
                                            exact ⟨ret_cls HK.out HV.out.symm rfl, rfl⟩
                                          · have q70d : decide (c ≤ 70) = false := decide_eq_false q70
                                            have HV : Hid (inK 11 c = false) := by show _ = _; simp [inK, hg, q97, q102, q65, q70]
                                            go_wp2
                                            go_ret2
                                            exact ⟨ret_cls HK.out HV.out.symm rfl, rfl⟩
                                        · have q65d : decide (65 ≤ c) = false := decide_eq_false q65
                                          have HV : Hid (inK 11 c = false) := by show _ = _; simp [inK, hg, q97, q102, q65]
                                          go_wp2
                                          go_ret2
                                          exact ⟨ret_cls HK.out HV.out.symm rfl, rfl⟩
                                    · have q97d : decide (97 ≤ c) = false := decide_eq_false q97
                                      by_cases q65 : 65 ≤ c
                                      · have q65d : decide (65 ≤ c) = true := decide_eq_true q65
                                        by_cases q70 : c ≤ 70
                                        · have q70d : decide (c ≤ 70) = true := decide_eq_true q70
                                          have HV : Hid (inK 11 c = true) := by show _ = _; simp [inK, hg, q97, q65, q70]
                                          go_wp2
                                          go_ret2
                                          exact ⟨ret_cls HK.out HV.out.symm rfl, rfl⟩
                                        · have q70d : decide (c ≤ 70) = false := decide_eq_false q70
                                          have HV : Hid (inK 11 c = false) := by show _ = _; simp [inK, hg, q97, q65, q70]
                                          go_wp2
                                          go_ret2
                                          exact ⟨ret_cls HK.out HV.out.symm rfl, rfl⟩
                                      · have q65d : decide (65 ≤ c) = false := decide_eq_false q65
                                        have HV : Hid (inK 11 c = false) := by show _ = _; simp [inK, hg, q97, q65]
                                        go_wp2
                                        go_ret2
                                        exact ⟨ret_cls HK.out HV.out.symm rfl, rfl⟩
                                | false =>
                                  have HK : Hid (kindOf name.toList = 12) := by show _ = _; rw [kindOf, e0, e1, e2, e3, e4, e5, e6, e7, e8, e9, e10, e11]; rfl
                                  go_wp2
                                  go_ret2
                                  exact ⟨ret_cls HK.out rfl rfl, rfl⟩

theorem zz_any (name : ByteArray) (c : Int) (w : World) :
    Calls Try.prog 12 #[.string name, .int .u8 c] w fun e w' => e = .returned (.tuple #[.bool (inK (kindOf name.toList) c), .bool (decide (kindOf name.toList < 12))]) ∧ w' = w := by
  go_enter Try.func12, Try.ntmps12
  go_wp2_with (go_at_call 25; refine (inClass_any _ _ _).mono ?_; rintro _ _ ⟨rfl, hw⟩; obtain rfl := hw.symm)
  go_ret2
  exact ⟨rfl, rfl⟩

end Go.Proofs.Qxb6602330a
