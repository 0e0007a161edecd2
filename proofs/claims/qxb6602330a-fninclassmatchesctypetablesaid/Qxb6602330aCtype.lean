import Derived.Test.Qxb6602330aInClass
import Derived.Test.Qxb6602330aPlain2
import Derived.Laws.BitsAllLaws
namespace Go.Proofs.Qxb6602330a
open Go.RowKit Plain

/-- the bits of kind k -/
def bitsK (k : Nat) : Int :=
  if k = 0 then 7
  else if k = 1 then 3
  else if k = 2 then 32
  else if k = 3 then 64
  else if k = 4 then 4
  else if k = 5 then 256
  else if k = 6 then 2
  else if k = 7 then 512
  else if k = 8 then 128
  else if k = 9 then 16
  else if k = 10 then 1
  else if k = 11 then 8
  else 0

theorem ret_bits {l : List UInt8} {k : Nat} {a : Int} {b : Bool} (hk : kindOf l = k) (ha : a = bitsK k) (hb : b = decide (k < 12)) :
    Ending.returned (.tuple #[.int .u16 a, .bool b]) = .returned (.tuple #[.int .u16 (bitsK (kindOf l)), .bool (decide (kindOf l < 12))]) := by
  rw [hk, ha, hb]

set_option maxRecDepth 20000 in
set_option maxHeartbeats 4000000 in
theorem classBits_any (name : ByteArray) (w : World) :
    Calls Try.prog 13 #[.string name] w fun e w' => e = .returned (.tuple #[.int .u16 (bitsK (kindOf name.toList)), .bool (decide (kindOf name.toList < 12))]) ∧ w' = w := by
  cases e0 : (name.toList == [97, 108, 110, 117, 109]) with
  | true =>
    have HK : Hid (kindOf name.toList = 0) := by show _ = _; rw [kindOf, e0]; rfl
    go_enter Try.func13, Try.ntmps13
    go_wp2
    go_ret2
    exact ⟨ret_bits HK.out rfl rfl, rfl⟩
  | false =>
    cases e1 : (name.toList == [97, 108, 112, 104, 97]) with
    | true =>
      have HK : Hid (kindOf name.toList = 1) := by show _ = _; rw [kindOf, e0, e1]; rfl
      go_enter Try.func13, Try.ntmps13
      go_wp2
      go_ret2
      exact ⟨ret_bits HK.out rfl rfl, rfl⟩
    | false =>
      cases e2 : (name.toList == [98, 108, 97, 110, 107]) with
      | true =>
        have HK : Hid (kindOf name.toList = 2) := by show _ = _; rw [kindOf, e0, e1, e2]; rfl
        go_enter Try.func13, Try.ntmps13
        go_wp2
        go_ret2
        exact ⟨ret_bits HK.out rfl rfl, rfl⟩
      | false =>
        cases e3 : (name.toList == [99, 110, 116, 114, 108]) with
        | true =>
          have HK : Hid (kindOf name.toList = 3) := by show _ = _; rw [kindOf, e0, e1, e2, e3]; rfl
          go_enter Try.func13, Try.ntmps13
          go_wp2
          go_ret2
          exact ⟨ret_bits HK.out rfl rfl, rfl⟩
        | false =>
          cases e4 : (name.toList == [100, 105, 103, 105, 116]) with
          | true =>
            have HK : Hid (kindOf name.toList = 4) := by show _ = _; rw [kindOf, e0, e1, e2, e3, e4]; rfl
            go_enter Try.func13, Try.ntmps13
            go_wp2
            go_ret2
            exact ⟨ret_bits HK.out rfl rfl, rfl⟩
          | false =>
            cases e5 : (name.toList == [103, 114, 97, 112, 104]) with
            | true =>
              have HK : Hid (kindOf name.toList = 5) := by show _ = _; rw [kindOf, e0, e1, e2, e3, e4, e5]; rfl
              go_enter Try.func13, Try.ntmps13
              go_wp2
              go_ret2
              exact ⟨ret_bits HK.out rfl rfl, rfl⟩
            | false =>
              cases e6 : (name.toList == [108, 111, 119, 101, 114]) with
              | true =>
                have HK : Hid (kindOf name.toList = 6) := by show _ = _; rw [kindOf, e0, e1, e2, e3, e4, e5, e6]; rfl
                go_enter Try.func13, Try.ntmps13
                go_wp2
                go_ret2
                exact ⟨ret_bits HK.out rfl rfl, rfl⟩
              | false =>
                cases e7 : (name.toList == [112, 114, 105, 110, 116]) with
                | true =>
                  have HK : Hid (kindOf name.toList = 7) := by show _ = _; rw [kindOf, e0, e1, e2, e3, e4, e5, e6, e7]; rfl
                  go_enter Try.func13, Try.ntmps13
                  go_wp2
                  go_ret2
                  exact ⟨ret_bits HK.out rfl rfl, rfl⟩
                | false =>
                  cases e8 : (name.toList == [112, 117, 110, 99, 116]) with
                  | true =>
                    have HK : Hid (kindOf name.toList = 8) := by show _ = _; rw [kindOf, e0, e1, e2, e3, e4, e5, e6, e7, e8]; rfl
                    go_enter Try.func13, Try.ntmps13
                    go_wp2
                    go_ret2
                    exact ⟨ret_bits HK.out rfl rfl, rfl⟩
                  | false =>
                    cases e9 : (name.toList == [115, 112, 97, 99, 101]) with
                    | true =>
                      have HK : Hid (kindOf name.toList = 9) := by show _ = _; rw [kindOf, e0, e1, e2, e3, e4, e5, e6, e7, e8, e9]; rfl
                      go_enter Try.func13, Try.ntmps13
                      go_wp2
                      go_ret2
                      exact ⟨ret_bits HK.out rfl rfl, rfl⟩
                    | false =>
                      cases e10 : (name.toList == [117, 112, 112, 101, 114]) with
                      | true =>
                        have HK : Hid (kindOf name.toList = 10) := by show _ = _; rw [kindOf, e0, e1, e2, e3, e4, e5, e6, e7, e8, e9, e10]; rfl
                        go_enter Try.func13, Try.ntmps13
                        go_wp2
                        go_ret2
                        exact ⟨ret_bits HK.out rfl rfl, rfl⟩
                      | false =>
                        cases e11 : (name.toList == [120, 100, 105, 103, 105, 116]) with
                        | true =>
                          have HK : Hid (kindOf name.toList = 11) := by show _ = _; rw [kindOf, e0, e1, e2, e3, e4, e5, e6, e7, e8, e9, e10, e11]; rfl
                          go_enter Try.func13, Try.ntmps13
                          go_wp2
                          go_ret2
                          exact ⟨ret_bits HK.out rfl rfl, rfl⟩
                        | false =>
                          have HK : Hid (kindOf name.toList = 12) := by show _ = _; rw [kindOf, e0, e1, e2, e3, e4, e5, e6, e7, e8, e9, e10, e11]; rfl
                          go_enter Try.func13, Try.ntmps13
                          go_wp2
                          go_ret2
                          exact ⟨ret_bits HK.out rfl rfl, rfl⟩

set_option maxHeartbeats 1000000 in
theorem ctype_0 (c : Int) (w : World) (_a : 0 ≤ c) (b : c ≤ 8) :
    Calls Try.prog 14 #[.int .u8 c] w fun e w' => e = .returned (.int .u16 64) ∧ w' = w := by
  have p8 : c ≤ 8 := by omega
  go_enter Try.func14, Try.ntmps14
  go_wp2
  go_ret
  exact ⟨rfl, rfl⟩
set_option maxHeartbeats 1000000 in
theorem ctype_1 (c : Int) (w : World) (a : 9 ≤ c) (b : c ≤ 9) :
    Calls Try.prog 14 #[.int .u8 c] w fun e w' => e = .returned (.int .u16 112) ∧ w' = w := by
  have q9 : (c == 9) = true := by simp; omega
  have p8 : ¬ c ≤ 8 := by omega
  have p13 : c ≤ 13 := by omega
  go_enter Try.func14, Try.ntmps14
  go_wp2
  go_ret
  exact ⟨rfl, rfl⟩
set_option maxHeartbeats 1000000 in
theorem ctype_2 (c : Int) (w : World) (a : 10 ≤ c) (b : c ≤ 13) :
    Calls Try.prog 14 #[.int .u8 c] w fun e w' => e = .returned (.int .u16 80) ∧ w' = w := by
  have q9 : (c == 9) = false := by simp; omega
  have p8 : ¬ c ≤ 8 := by omega
  have p13 : c ≤ 13 := by omega
  go_enter Try.func14, Try.ntmps14
  go_wp2
  go_ret
  exact ⟨rfl, rfl⟩
set_option maxHeartbeats 1000000 in
theorem ctype_3 (c : Int) (w : World) (a : 14 ≤ c) (b : c ≤ 31) :
    Calls Try.prog 14 #[.int .u8 c] w fun e w' => e = .returned (.int .u16 64) ∧ w' = w := by
  have q9 : (c == 9) = false := by simp; omega
  have p8 : ¬ c ≤ 8 := by omega
  have p13 : ¬ c ≤ 13 := by omega
  have p31 : c ≤ 31 := by omega
  go_enter Try.func14, Try.ntmps14
  go_wp2
  go_ret
  exact ⟨rfl, rfl⟩
set_option maxHeartbeats 1000000 in
theorem ctype_4 (c : Int) (w : World) (a : 32 ≤ c) (b : c ≤ 32) :
    Calls Try.prog 14 #[.int .u8 c] w fun e w' => e = .returned (.int .u16 560) ∧ w' = w := by
  have q9 : (c == 9) = false := by simp; omega
  have q32 : (c == 32) = true := by simp; omega
  have p8 : ¬ c ≤ 8 := by omega
  have p13 : ¬ c ≤ 13 := by omega
  have p31 : ¬ c ≤ 31 := by omega
  have p47 : c ≤ 47 := by omega
  go_enter Try.func14, Try.ntmps14
  go_wp2
  go_ret
  exact ⟨rfl, rfl⟩
set_option maxHeartbeats 1000000 in
theorem ctype_5 (c : Int) (w : World) (a : 33 ≤ c) (b : c ≤ 47) :
    Calls Try.prog 14 #[.int .u8 c] w fun e w' => e = .returned (.int .u16 896) ∧ w' = w := by
  have q9 : (c == 9) = false := by simp; omega
  have q32 : (c == 32) = false := by simp; omega
  have p8 : ¬ c ≤ 8 := by omega
  have p13 : ¬ c ≤ 13 := by omega
  have p31 : ¬ c ≤ 31 := by omega
  have p47 : c ≤ 47 := by omega
  go_enter Try.func14, Try.ntmps14
  go_wp2
  go_ret
  exact ⟨rfl, rfl⟩
set_option maxHeartbeats 1000000 in
theorem ctype_6 (c : Int) (w : World) (a : 48 ≤ c) (b : c ≤ 57) :
    Calls Try.prog 14 #[.int .u8 c] w fun e w' => e = .returned (.int .u16 780) ∧ w' = w := by
  have q9 : (c == 9) = false := by simp; omega
  have q32 : (c == 32) = false := by simp; omega
  have p8 : ¬ c ≤ 8 := by omega
  have p13 : ¬ c ≤ 13 := by omega
  have p31 : ¬ c ≤ 31 := by omega
  have p47 : ¬ c ≤ 47 := by omega
  have p57 : c ≤ 57 := by omega
  go_enter Try.func14, Try.ntmps14
  go_wp2
  go_ret
  exact ⟨rfl, rfl⟩
set_option maxHeartbeats 1000000 in
theorem ctype_7 (c : Int) (w : World) (a : 58 ≤ c) (b : c ≤ 64) :
    Calls Try.prog 14 #[.int .u8 c] w fun e w' => e = .returned (.int .u16 896) ∧ w' = w := by
  have q9 : (c == 9) = false := by simp; omega
  have q32 : (c == 32) = false := by simp; omega
  have p8 : ¬ c ≤ 8 := by omega
  have p13 : ¬ c ≤ 13 := by omega
  have p31 : ¬ c ≤ 31 := by omega
  have p47 : ¬ c ≤ 47 := by omega
  have p57 : ¬ c ≤ 57 := by omega
  have p64 : c ≤ 64 := by omega
  go_enter Try.func14, Try.ntmps14
  go_wp2
  go_ret
  exact ⟨rfl, rfl⟩
set_option maxHeartbeats 1000000 in
theorem ctype_8 (c : Int) (w : World) (a : 65 ≤ c) (b : c ≤ 70) :
    Calls Try.prog 14 #[.int .u8 c] w fun e w' => e = .returned (.int .u16 777) ∧ w' = w := by
  have q9 : (c == 9) = false := by simp; omega
  have q32 : (c == 32) = false := by simp; omega
  have p8 : ¬ c ≤ 8 := by omega
  have p13 : ¬ c ≤ 13 := by omega
  have p31 : ¬ c ≤ 31 := by omega
  have p47 : ¬ c ≤ 47 := by omega
  have p57 : ¬ c ≤ 57 := by omega
  have p64 : ¬ c ≤ 64 := by omega
  have p70 : c ≤ 70 := by omega
  go_enter Try.func14, Try.ntmps14
  go_wp2
  go_ret
  exact ⟨rfl, rfl⟩
set_option maxHeartbeats 1000000 in
theorem ctype_9 (c : Int) (w : World) (a : 71 ≤ c) (b : c ≤ 90) :
    Calls Try.prog 14 #[.int .u8 c] w fun e w' => e = .returned (.int .u16 769) ∧ w' = w := by
  have q9 : (c == 9) = false := by simp; omega
  have q32 : (c == 32) = false := by simp; omega
  have p8 : ¬ c ≤ 8 := by omega
  have p13 : ¬ c ≤ 13 := by omega
  have p31 : ¬ c ≤ 31 := by omega
  have p47 : ¬ c ≤ 47 := by omega
  have p57 : ¬ c ≤ 57 := by omega
  have p64 : ¬ c ≤ 64 := by omega
  have p70 : ¬ c ≤ 70 := by omega
  have p90 : c ≤ 90 := by omega
  go_enter Try.func14, Try.ntmps14
  go_wp2
  go_ret
  exact ⟨rfl, rfl⟩
set_option maxHeartbeats 1000000 in
theorem ctype_10 (c : Int) (w : World) (a : 91 ≤ c) (b : c ≤ 96) :
    Calls Try.prog 14 #[.int .u8 c] w fun e w' => e = .returned (.int .u16 896) ∧ w' = w := by
  have q9 : (c == 9) = false := by simp; omega
  have q32 : (c == 32) = false := by simp; omega
  have p8 : ¬ c ≤ 8 := by omega
  have p13 : ¬ c ≤ 13 := by omega
  have p31 : ¬ c ≤ 31 := by omega
  have p47 : ¬ c ≤ 47 := by omega
  have p57 : ¬ c ≤ 57 := by omega
  have p64 : ¬ c ≤ 64 := by omega
  have p70 : ¬ c ≤ 70 := by omega
  have p90 : ¬ c ≤ 90 := by omega
  have p96 : c ≤ 96 := by omega
  go_enter Try.func14, Try.ntmps14
  go_wp2
  go_ret
  exact ⟨rfl, rfl⟩
set_option maxHeartbeats 1000000 in
theorem ctype_11 (c : Int) (w : World) (a : 97 ≤ c) (b : c ≤ 102) :
    Calls Try.prog 14 #[.int .u8 c] w fun e w' => e = .returned (.int .u16 778) ∧ w' = w := by
  have q9 : (c == 9) = false := by simp; omega
  have q32 : (c == 32) = false := by simp; omega
  have p8 : ¬ c ≤ 8 := by omega
  have p13 : ¬ c ≤ 13 := by omega
  have p31 : ¬ c ≤ 31 := by omega
  have p47 : ¬ c ≤ 47 := by omega
  have p57 : ¬ c ≤ 57 := by omega
  have p64 : ¬ c ≤ 64 := by omega
  have p70 : ¬ c ≤ 70 := by omega
  have p90 : ¬ c ≤ 90 := by omega
  have p96 : ¬ c ≤ 96 := by omega
  have p102 : c ≤ 102 := by omega
  go_enter Try.func14, Try.ntmps14
  go_wp2
  go_ret
  exact ⟨rfl, rfl⟩
set_option maxHeartbeats 1000000 in
theorem ctype_12 (c : Int) (w : World) (a : 103 ≤ c) (b : c ≤ 122) :
    Calls Try.prog 14 #[.int .u8 c] w fun e w' => e = .returned (.int .u16 770) ∧ w' = w := by
  have q9 : (c == 9) = false := by simp; omega
  have q32 : (c == 32) = false := by simp; omega
  have p8 : ¬ c ≤ 8 := by omega
  have p13 : ¬ c ≤ 13 := by omega
  have p31 : ¬ c ≤ 31 := by omega
  have p47 : ¬ c ≤ 47 := by omega
  have p57 : ¬ c ≤ 57 := by omega
  have p64 : ¬ c ≤ 64 := by omega
  have p70 : ¬ c ≤ 70 := by omega
  have p90 : ¬ c ≤ 90 := by omega
  have p96 : ¬ c ≤ 96 := by omega
  have p102 : ¬ c ≤ 102 := by omega
  have p122 : c ≤ 122 := by omega
  go_enter Try.func14, Try.ntmps14
  go_wp2
  go_ret
  exact ⟨rfl, rfl⟩
set_option maxHeartbeats 1000000 in
theorem ctype_13 (c : Int) (w : World) (a : 123 ≤ c) (b : c ≤ 126) :
    Calls Try.prog 14 #[.int .u8 c] w fun e w' => e = .returned (.int .u16 896) ∧ w' = w := by
  have q9 : (c == 9) = false := by simp; omega
  have q32 : (c == 32) = false := by simp; omega
  have p8 : ¬ c ≤ 8 := by omega
  have p13 : ¬ c ≤ 13 := by omega
  have p31 : ¬ c ≤ 31 := by omega
  have p47 : ¬ c ≤ 47 := by omega
  have p57 : ¬ c ≤ 57 := by omega
  have p64 : ¬ c ≤ 64 := by omega
  have p70 : ¬ c ≤ 70 := by omega
  have p90 : ¬ c ≤ 90 := by omega
  have p96 : ¬ c ≤ 96 := by omega
  have p102 : ¬ c ≤ 102 := by omega
  have p122 : ¬ c ≤ 122 := by omega
  have p126 : c ≤ 126 := by omega
  go_enter Try.func14, Try.ntmps14
  go_wp2
  go_ret
  exact ⟨rfl, rfl⟩
set_option maxHeartbeats 1000000 in
theorem ctype_14 (c : Int) (w : World) (a : 127 ≤ c) (b : c ≤ 127) :
    Calls Try.prog 14 #[.int .u8 c] w fun e w' => e = .returned (.int .u16 64) ∧ w' = w := by
  have q9 : (c == 9) = false := by simp; omega
  have q32 : (c == 32) = false := by simp; omega
  have q127 : (c == 127) = true := by simp; omega
  have p8 : ¬ c ≤ 8 := by omega
  have p13 : ¬ c ≤ 13 := by omega
  have p31 : ¬ c ≤ 31 := by omega
  have p47 : ¬ c ≤ 47 := by omega
  have p57 : ¬ c ≤ 57 := by omega
  have p64 : ¬ c ≤ 64 := by omega
  have p70 : ¬ c ≤ 70 := by omega
  have p90 : ¬ c ≤ 90 := by omega
  have p96 : ¬ c ≤ 96 := by omega
  have p102 : ¬ c ≤ 102 := by omega
  have p122 : ¬ c ≤ 122 := by omega
  have p126 : ¬ c ≤ 126 := by omega
  go_enter Try.func14, Try.ntmps14
  go_wp2
  go_ret
  exact ⟨rfl, rfl⟩
set_option maxHeartbeats 1000000 in
theorem ctype_15 (c : Int) (w : World) (a : 128 ≤ c) (b : c ≤ 255) :
    Calls Try.prog 14 #[.int .u8 c] w fun e w' => e = .returned (.int .u16 0) ∧ w' = w := by
  have q9 : (c == 9) = false := by simp; omega
  have q32 : (c == 32) = false := by simp; omega
  have q127 : (c == 127) = false := by simp; omega
  have p8 : ¬ c ≤ 8 := by omega
  have p13 : ¬ c ≤ 13 := by omega
  have p31 : ¬ c ≤ 31 := by omega
  have p47 : ¬ c ≤ 47 := by omega
  have p57 : ¬ c ≤ 57 := by omega
  have p64 : ¬ c ≤ 64 := by omega
  have p70 : ¬ c ≤ 70 := by omega
  have p90 : ¬ c ≤ 90 := by omega
  have p96 : ¬ c ≤ 96 := by omega
  have p102 : ¬ c ≤ 102 := by omega
  have p122 : ¬ c ≤ 122 := by omega
  have p126 : ¬ c ≤ 126 := by omega
  go_enter Try.func14, Try.ntmps14
  go_wp2
  go_ret
  exact ⟨rfl, rfl⟩

theorem bytes_yes (name : ByteArray) (c : Int) (w : World) (h : name.size ≤ 1048576) :
    Calls Try.prog 11 #[.string name, .int .u8 c] w fun e w' => e = .returned (.bool true) ∧ w' = w := by
  go_enter Try.func11, Try.ntmps11
  go_wp2
  go_ret
  exact ⟨rfl, rfl⟩
theorem bytes_no (name : ByteArray) (c : Int) (w : World) (h : 1048576 < name.size) :
    Calls Try.prog 11 #[.string name, .int .u8 c] w fun e w' => e = .returned (.bool false) ∧ w' = w := by
  go_enter Try.func11, Try.ntmps11
  go_wp2
  go_ret
  exact ⟨rfl, rfl⟩

theorem ct_long (name : ByteArray) (c : Int) (w : World) (h : 1048576 < name.size) :
    Calls Try.prog 3 #[.string name, .int .u8 c] w fun e w' => e = .returned (.bool true) ∧ w' = w := by
  go_enter Try.func3, Try.ntmps3
  go_wp2_with (go_at_call 11; refine (bytes_no _ _ _ h).mono ?_; rintro _ _ ⟨rfl, hw⟩; obtain rfl := hw.symm)
  go_ret
  exact ⟨rfl, rfl⟩

set_option maxHeartbeats 1000000 in
/-- the law, what the callees answer given -/
theorem ct_of (name : ByteArray) (c B T : Int) (b kn : Bool) (w : World) (hn : name.size ≤ 1048576)
    (HI : Hid (inK (kindOf name.toList) c = b)) (HN : Hid (decide (kindOf name.toList < 12) = kn)) (HB : Hid (bitsK (kindOf name.toList) = B))
    (HT : Hid (∀ w : World, Calls Try.prog 14 #[.int .u8 c] w fun e w' => e = .returned (.int .u16 T) ∧ w' = w)) (hbit : (bits .and .u16 B T != 0) = b) :
    Calls Try.prog 3 #[.string name, .int .u8 c] w fun e w' => e = .returned (.bool true) ∧ w' = w := by
  cases kn
  all_goals
    cases b
    all_goals
      go_enter Try.func3, Try.ntmps3
      go_wp2_with (first | (go_at_call 11; refine (bytes_yes _ _ _ hn).mono ?_; rintro _ _ ⟨rfl, hw⟩; obtain rfl := hw.symm) | (go_at_call 12; refine (zz_any _ _ _).mono ?_; rw [HI.out, HN.out]; rintro _ _ ⟨rfl, hw⟩; obtain rfl := hw.symm) | (go_at_call 13; refine (classBits_any _ _).mono ?_; rw [HB.out, HN.out]; rintro _ _ ⟨rfl, hw⟩; obtain rfl := hw.symm) | (go_at_call 14; refine (HT.out _).mono ?_; rintro _ _ ⟨rfl, hw⟩; obtain rfl := hw.symm))
      go_ret
      exact ⟨rfl, rfl⟩

theorem ite_le {p : Prop} [Decidable p] {a b n : Nat} (h1 : a ≤ n) (h2 : b ≤ n) : (if p then a else b) ≤ n := by
  split
  · exact h1
  · exact h2
theorem kind_le (l : List UInt8) : kindOf l ≤ 12 := by
  unfold kindOf
  exact ite_le (by decide) (ite_le (by decide) (ite_le (by decide) (ite_le (by decide) (ite_le (by decide) (ite_le (by decide) (ite_le (by decide) (ite_le (by decide) (ite_le (by decide) (ite_le (by decide) (ite_le (by decide) (ite_le (by decide) (by decide))))))))))))

theorem bit_0 (k : Nat) (hk : k ≤ 12) (c : Int) (a : 0 ≤ c) (b : c ≤ 8) : (bits .and .u16 (bitsK k) 64 != 0) = inK k c := by
  obtain ⟨f0, f1, f2, f3, f4, f5, f6, f7, f8, f9, f10, f11⟩ := cls_0 a b
  match k, hk with
  | 0, _ => rw [f0]; decide
  | 1, _ => rw [f1]; decide
  | 2, _ => rw [f2]; decide
  | 3, _ => rw [f3]; decide
  | 4, _ => rw [f4]; decide
  | 5, _ => rw [f5]; decide
  | 6, _ => rw [f6]; decide
  | 7, _ => rw [f7]; decide
  | 8, _ => rw [f8]; decide
  | 9, _ => rw [f9]; decide
  | 10, _ => rw [f10]; decide
  | 11, _ => rw [f11]; decide
  | 12, _ => rfl
  | k + 13, h => omega
theorem bit_1 (k : Nat) (hk : k ≤ 12) (c : Int) (a : 9 ≤ c) (b : c ≤ 9) : (bits .and .u16 (bitsK k) 112 != 0) = inK k c := by
  obtain ⟨f0, f1, f2, f3, f4, f5, f6, f7, f8, f9, f10, f11⟩ := cls_1 a b
  match k, hk with
  | 0, _ => rw [f0]; decide
  | 1, _ => rw [f1]; decide
  | 2, _ => rw [f2]; decide
  | 3, _ => rw [f3]; decide
  | 4, _ => rw [f4]; decide
  | 5, _ => rw [f5]; decide
  | 6, _ => rw [f6]; decide
  | 7, _ => rw [f7]; decide
  | 8, _ => rw [f8]; decide
  | 9, _ => rw [f9]; decide
  | 10, _ => rw [f10]; decide
  | 11, _ => rw [f11]; decide
  | 12, _ => rfl
  | k + 13, h => omega
theorem bit_2 (k : Nat) (hk : k ≤ 12) (c : Int) (a : 10 ≤ c) (b : c ≤ 13) : (bits .and .u16 (bitsK k) 80 != 0) = inK k c := by
  obtain ⟨f0, f1, f2, f3, f4, f5, f6, f7, f8, f9, f10, f11⟩ := cls_2 a b
  match k, hk with
  | 0, _ => rw [f0]; decide
  | 1, _ => rw [f1]; decide
  | 2, _ => rw [f2]; decide
  | 3, _ => rw [f3]; decide
  | 4, _ => rw [f4]; decide
  | 5, _ => rw [f5]; decide
  | 6, _ => rw [f6]; decide
  | 7, _ => rw [f7]; decide
  | 8, _ => rw [f8]; decide
  | 9, _ => rw [f9]; decide
  | 10, _ => rw [f10]; decide
  | 11, _ => rw [f11]; decide
  | 12, _ => rfl
  | k + 13, h => omega
theorem bit_3 (k : Nat) (hk : k ≤ 12) (c : Int) (a : 14 ≤ c) (b : c ≤ 31) : (bits .and .u16 (bitsK k) 64 != 0) = inK k c := by
  obtain ⟨f0, f1, f2, f3, f4, f5, f6, f7, f8, f9, f10, f11⟩ := cls_3 a b
  match k, hk with
  | 0, _ => rw [f0]; decide
  | 1, _ => rw [f1]; decide
  | 2, _ => rw [f2]; decide
  | 3, _ => rw [f3]; decide
  | 4, _ => rw [f4]; decide
  | 5, _ => rw [f5]; decide
  | 6, _ => rw [f6]; decide
  | 7, _ => rw [f7]; decide
  | 8, _ => rw [f8]; decide
  | 9, _ => rw [f9]; decide
  | 10, _ => rw [f10]; decide
  | 11, _ => rw [f11]; decide
  | 12, _ => rfl
  | k + 13, h => omega
theorem bit_4 (k : Nat) (hk : k ≤ 12) (c : Int) (a : 32 ≤ c) (b : c ≤ 32) : (bits .and .u16 (bitsK k) 560 != 0) = inK k c := by
  obtain ⟨f0, f1, f2, f3, f4, f5, f6, f7, f8, f9, f10, f11⟩ := cls_4 a b
  match k, hk with
  | 0, _ => rw [f0]; decide
  | 1, _ => rw [f1]; decide
  | 2, _ => rw [f2]; decide
  | 3, _ => rw [f3]; decide
  | 4, _ => rw [f4]; decide
  | 5, _ => rw [f5]; decide
  | 6, _ => rw [f6]; decide
  | 7, _ => rw [f7]; decide
  | 8, _ => rw [f8]; decide
  | 9, _ => rw [f9]; decide
  | 10, _ => rw [f10]; decide
  | 11, _ => rw [f11]; decide
  | 12, _ => rfl
  | k + 13, h => omega
theorem bit_5 (k : Nat) (hk : k ≤ 12) (c : Int) (a : 33 ≤ c) (b : c ≤ 47) : (bits .and .u16 (bitsK k) 896 != 0) = inK k c := by
  obtain ⟨f0, f1, f2, f3, f4, f5, f6, f7, f8, f9, f10, f11⟩ := cls_5 a b
  match k, hk with
  | 0, _ => rw [f0]; decide
  | 1, _ => rw [f1]; decide
  | 2, _ => rw [f2]; decide
  | 3, _ => rw [f3]; decide
  | 4, _ => rw [f4]; decide
  | 5, _ => rw [f5]; decide
  | 6, _ => rw [f6]; decide
  | 7, _ => rw [f7]; decide
  | 8, _ => rw [f8]; decide
  | 9, _ => rw [f9]; decide
  | 10, _ => rw [f10]; decide
  | 11, _ => rw [f11]; decide
  | 12, _ => rfl
  | k + 13, h => omega
theorem bit_6 (k : Nat) (hk : k ≤ 12) (c : Int) (a : 48 ≤ c) (b : c ≤ 57) : (bits .and .u16 (bitsK k) 780 != 0) = inK k c := by
  obtain ⟨f0, f1, f2, f3, f4, f5, f6, f7, f8, f9, f10, f11⟩ := cls_6 a b
  match k, hk with
  | 0, _ => rw [f0]; decide
  | 1, _ => rw [f1]; decide
  | 2, _ => rw [f2]; decide
  | 3, _ => rw [f3]; decide
  | 4, _ => rw [f4]; decide
  | 5, _ => rw [f5]; decide
  | 6, _ => rw [f6]; decide
  | 7, _ => rw [f7]; decide
  | 8, _ => rw [f8]; decide
  | 9, _ => rw [f9]; decide
  | 10, _ => rw [f10]; decide
  | 11, _ => rw [f11]; decide
  | 12, _ => rfl
  | k + 13, h => omega
theorem bit_7 (k : Nat) (hk : k ≤ 12) (c : Int) (a : 58 ≤ c) (b : c ≤ 64) : (bits .and .u16 (bitsK k) 896 != 0) = inK k c := by
  obtain ⟨f0, f1, f2, f3, f4, f5, f6, f7, f8, f9, f10, f11⟩ := cls_7 a b
  match k, hk with
  | 0, _ => rw [f0]; decide
  | 1, _ => rw [f1]; decide
  | 2, _ => rw [f2]; decide
  | 3, _ => rw [f3]; decide
  | 4, _ => rw [f4]; decide
  | 5, _ => rw [f5]; decide
  | 6, _ => rw [f6]; decide
  | 7, _ => rw [f7]; decide
  | 8, _ => rw [f8]; decide
  | 9, _ => rw [f9]; decide
  | 10, _ => rw [f10]; decide
  | 11, _ => rw [f11]; decide
  | 12, _ => rfl
  | k + 13, h => omega
theorem bit_8 (k : Nat) (hk : k ≤ 12) (c : Int) (a : 65 ≤ c) (b : c ≤ 70) : (bits .and .u16 (bitsK k) 777 != 0) = inK k c := by
  obtain ⟨f0, f1, f2, f3, f4, f5, f6, f7, f8, f9, f10, f11⟩ := cls_8 a b
  match k, hk with
  | 0, _ => rw [f0]; decide
  | 1, _ => rw [f1]; decide
  | 2, _ => rw [f2]; decide
  | 3, _ => rw [f3]; decide
  | 4, _ => rw [f4]; decide
  | 5, _ => rw [f5]; decide
  | 6, _ => rw [f6]; decide
  | 7, _ => rw [f7]; decide
  | 8, _ => rw [f8]; decide
  | 9, _ => rw [f9]; decide
  | 10, _ => rw [f10]; decide
  | 11, _ => rw [f11]; decide
  | 12, _ => rfl
  | k + 13, h => omega
theorem bit_9 (k : Nat) (hk : k ≤ 12) (c : Int) (a : 71 ≤ c) (b : c ≤ 90) : (bits .and .u16 (bitsK k) 769 != 0) = inK k c := by
  obtain ⟨f0, f1, f2, f3, f4, f5, f6, f7, f8, f9, f10, f11⟩ := cls_9 a b
  match k, hk with
  | 0, _ => rw [f0]; decide
  | 1, _ => rw [f1]; decide
  | 2, _ => rw [f2]; decide
  | 3, _ => rw [f3]; decide
  | 4, _ => rw [f4]; decide
  | 5, _ => rw [f5]; decide
  | 6, _ => rw [f6]; decide
  | 7, _ => rw [f7]; decide
  | 8, _ => rw [f8]; decide
  | 9, _ => rw [f9]; decide
  | 10, _ => rw [f10]; decide
  | 11, _ => rw [f11]; decide
  | 12, _ => rfl
  | k + 13, h => omega
theorem bit_10 (k : Nat) (hk : k ≤ 12) (c : Int) (a : 91 ≤ c) (b : c ≤ 96) : (bits .and .u16 (bitsK k) 896 != 0) = inK k c := by
  obtain ⟨f0, f1, f2, f3, f4, f5, f6, f7, f8, f9, f10, f11⟩ := cls_10 a b
  match k, hk with
  | 0, _ => rw [f0]; decide
  | 1, _ => rw [f1]; decide
  | 2, _ => rw [f2]; decide
  | 3, _ => rw [f3]; decide
  | 4, _ => rw [f4]; decide
  | 5, _ => rw [f5]; decide
  | 6, _ => rw [f6]; decide
  | 7, _ => rw [f7]; decide
  | 8, _ => rw [f8]; decide
  | 9, _ => rw [f9]; decide
  | 10, _ => rw [f10]; decide
  | 11, _ => rw [f11]; decide
  | 12, _ => rfl
  | k + 13, h => omega
theorem bit_11 (k : Nat) (hk : k ≤ 12) (c : Int) (a : 97 ≤ c) (b : c ≤ 102) : (bits .and .u16 (bitsK k) 778 != 0) = inK k c := by
  obtain ⟨f0, f1, f2, f3, f4, f5, f6, f7, f8, f9, f10, f11⟩ := cls_11 a b
  match k, hk with
  | 0, _ => rw [f0]; decide
  | 1, _ => rw [f1]; decide
  | 2, _ => rw [f2]; decide
  | 3, _ => rw [f3]; decide
  | 4, _ => rw [f4]; decide
  | 5, _ => rw [f5]; decide
  | 6, _ => rw [f6]; decide
  | 7, _ => rw [f7]; decide
  | 8, _ => rw [f8]; decide
  | 9, _ => rw [f9]; decide
  | 10, _ => rw [f10]; decide
  | 11, _ => rw [f11]; decide
  | 12, _ => rfl
  | k + 13, h => omega
theorem bit_12 (k : Nat) (hk : k ≤ 12) (c : Int) (a : 103 ≤ c) (b : c ≤ 122) : (bits .and .u16 (bitsK k) 770 != 0) = inK k c := by
  obtain ⟨f0, f1, f2, f3, f4, f5, f6, f7, f8, f9, f10, f11⟩ := cls_12 a b
  match k, hk with
  | 0, _ => rw [f0]; decide
  | 1, _ => rw [f1]; decide
  | 2, _ => rw [f2]; decide
  | 3, _ => rw [f3]; decide
  | 4, _ => rw [f4]; decide
  | 5, _ => rw [f5]; decide
  | 6, _ => rw [f6]; decide
  | 7, _ => rw [f7]; decide
  | 8, _ => rw [f8]; decide
  | 9, _ => rw [f9]; decide
  | 10, _ => rw [f10]; decide
  | 11, _ => rw [f11]; decide
  | 12, _ => rfl
  | k + 13, h => omega
theorem bit_13 (k : Nat) (hk : k ≤ 12) (c : Int) (a : 123 ≤ c) (b : c ≤ 126) : (bits .and .u16 (bitsK k) 896 != 0) = inK k c := by
  obtain ⟨f0, f1, f2, f3, f4, f5, f6, f7, f8, f9, f10, f11⟩ := cls_13 a b
  match k, hk with
  | 0, _ => rw [f0]; decide
  | 1, _ => rw [f1]; decide
  | 2, _ => rw [f2]; decide
  | 3, _ => rw [f3]; decide
  | 4, _ => rw [f4]; decide
  | 5, _ => rw [f5]; decide
  | 6, _ => rw [f6]; decide
  | 7, _ => rw [f7]; decide
  | 8, _ => rw [f8]; decide
  | 9, _ => rw [f9]; decide
  | 10, _ => rw [f10]; decide
  | 11, _ => rw [f11]; decide
  | 12, _ => rfl
  | k + 13, h => omega
theorem bit_14 (k : Nat) (hk : k ≤ 12) (c : Int) (a : 127 ≤ c) (b : c ≤ 127) : (bits .and .u16 (bitsK k) 64 != 0) = inK k c := by
  obtain ⟨f0, f1, f2, f3, f4, f5, f6, f7, f8, f9, f10, f11⟩ := cls_14 a b
  match k, hk with
  | 0, _ => rw [f0]; decide
  | 1, _ => rw [f1]; decide
  | 2, _ => rw [f2]; decide
  | 3, _ => rw [f3]; decide
  | 4, _ => rw [f4]; decide
  | 5, _ => rw [f5]; decide
  | 6, _ => rw [f6]; decide
  | 7, _ => rw [f7]; decide
  | 8, _ => rw [f8]; decide
  | 9, _ => rw [f9]; decide
  | 10, _ => rw [f10]; decide
  | 11, _ => rw [f11]; decide
  | 12, _ => rfl
  | k + 13, h => omega
theorem bit_15 (k : Nat) (hk : k ≤ 12) (c : Int) (a : 128 ≤ c) (b : c ≤ 255) : (bits .and .u16 (bitsK k) 0 != 0) = inK k c := by
  obtain ⟨f0, f1, f2, f3, f4, f5, f6, f7, f8, f9, f10, f11⟩ := cls_15 a b
  match k, hk with
  | 0, _ => rw [f0]; decide
  | 1, _ => rw [f1]; decide
  | 2, _ => rw [f2]; decide
  | 3, _ => rw [f3]; decide
  | 4, _ => rw [f4]; decide
  | 5, _ => rw [f5]; decide
  | 6, _ => rw [f6]; decide
  | 7, _ => rw [f7]; decide
  | 8, _ => rw [f8]; decide
  | 9, _ => rw [f9]; decide
  | 10, _ => rw [f10]; decide
  | 11, _ => rw [f11]; decide
  | 12, _ => rfl
  | k + 13, h => omega

theorem ct_all (name : ByteArray) (c : Int) (w : World) (h0 : 0 ≤ c) (h1 : c ≤ 255) :
    Calls Try.prog 3 #[.string name, .int .u8 c] w fun e w' => e = .returned (.bool true) ∧ w' = w := by
  by_cases hn : 1048576 < name.size
  · exact ct_long name c w hn
  have hk := kind_le name.toList
  rcases ranges h0 h1 with ⟨a, b⟩ | ⟨a, b⟩ | ⟨a, b⟩ | ⟨a, b⟩ | ⟨a, b⟩ | ⟨a, b⟩ | ⟨a, b⟩ | ⟨a, b⟩ | ⟨a, b⟩ | ⟨a, b⟩ | ⟨a, b⟩ | ⟨a, b⟩ | ⟨a, b⟩ | ⟨a, b⟩ | ⟨a, b⟩ | ⟨a, b⟩
  · exact ct_of name c _ 64 _ _ w (by omega) (show _ = _ from rfl) (show _ = _ from rfl) (show _ = _ from rfl) (show ∀ w : World, _ from fun w => ctype_0 c w a b) (bit_0 _ hk c a b)
  · exact ct_of name c _ 112 _ _ w (by omega) (show _ = _ from rfl) (show _ = _ from rfl) (show _ = _ from rfl) (show ∀ w : World, _ from fun w => ctype_1 c w a b) (bit_1 _ hk c a b)
  · exact ct_of name c _ 80 _ _ w (by omega) (show _ = _ from rfl) (show _ = _ from rfl) (show _ = _ from rfl) (show ∀ w : World, _ from fun w => ctype_2 c w a b) (bit_2 _ hk c a b)
  · exact ct_of name c _ 64 _ _ w (by omega) (show _ = _ from rfl) (show _ = _ from rfl) (show _ = _ from rfl) (show ∀ w : World, _ from fun w => ctype_3 c w a b) (bit_3 _ hk c a b)
  · exact ct_of name c _ 560 _ _ w (by omega) (show _ = _ from rfl) (show _ = _ from rfl) (show _ = _ from rfl) (show ∀ w : World, _ from fun w => ctype_4 c w a b) (bit_4 _ hk c a b)
  · exact ct_of name c _ 896 _ _ w (by omega) (show _ = _ from rfl) (show _ = _ from rfl) (show _ = _ from rfl) (show ∀ w : World, _ from fun w => ctype_5 c w a b) (bit_5 _ hk c a b)
  · exact ct_of name c _ 780 _ _ w (by omega) (show _ = _ from rfl) (show _ = _ from rfl) (show _ = _ from rfl) (show ∀ w : World, _ from fun w => ctype_6 c w a b) (bit_6 _ hk c a b)
  · exact ct_of name c _ 896 _ _ w (by omega) (show _ = _ from rfl) (show _ = _ from rfl) (show _ = _ from rfl) (show ∀ w : World, _ from fun w => ctype_7 c w a b) (bit_7 _ hk c a b)
  · exact ct_of name c _ 777 _ _ w (by omega) (show _ = _ from rfl) (show _ = _ from rfl) (show _ = _ from rfl) (show ∀ w : World, _ from fun w => ctype_8 c w a b) (bit_8 _ hk c a b)
  · exact ct_of name c _ 769 _ _ w (by omega) (show _ = _ from rfl) (show _ = _ from rfl) (show _ = _ from rfl) (show ∀ w : World, _ from fun w => ctype_9 c w a b) (bit_9 _ hk c a b)
  · exact ct_of name c _ 896 _ _ w (by omega) (show _ = _ from rfl) (show _ = _ from rfl) (show _ = _ from rfl) (show ∀ w : World, _ from fun w => ctype_10 c w a b) (bit_10 _ hk c a b)
  · exact ct_of name c _ 778 _ _ w (by omega) (show _ = _ from rfl) (show _ = _ from rfl) (show _ = _ from rfl) (show ∀ w : World, _ from fun w => ctype_11 c w a b) (bit_11 _ hk c a b)
  · exact ct_of name c _ 770 _ _ w (by omega) (show _ = _ from rfl) (show _ = _ from rfl) (show _ = _ from rfl) (show ∀ w : World, _ from fun w => ctype_12 c w a b) (bit_12 _ hk c a b)
  · exact ct_of name c _ 896 _ _ w (by omega) (show _ = _ from rfl) (show _ = _ from rfl) (show _ = _ from rfl) (show ∀ w : World, _ from fun w => ctype_13 c w a b) (bit_13 _ hk c a b)
  · exact ct_of name c _ 64 _ _ w (by omega) (show _ = _ from rfl) (show _ = _ from rfl) (show _ = _ from rfl) (show ∀ w : World, _ from fun w => ctype_14 c w a b) (bit_14 _ hk c a b)
  · exact ct_of name c _ 0 _ _ w (by omega) (show _ = _ from rfl) (show _ = _ from rfl) (show _ = _ from rfl) (show ∀ w : World, _ from fun w => ctype_15 c w a b) (bit_15 _ hk c a b)

end Go.Proofs.Qxb6602330a
