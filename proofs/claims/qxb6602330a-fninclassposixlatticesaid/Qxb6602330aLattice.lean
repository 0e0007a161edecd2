import Derived.Test.Qxb6602330aInClass
import Derived.Test.Qxb6602330aPlain2
namespace Go.Proofs.Qxb6602330a
open Go.RowKit Plain

theorem kind_0 : kindOf (ByteArray.mk #[97, 108, 110, 117, 109]).toList = 0 := by
  show kindOf (ByteArray.mk (List.toArray [97, 108, 110, 117, 109])).toList = 0
  rw [ByteArray.toList_mk]; decide
theorem zz_0 (c : Int) (w : World) :
    Calls Try.prog 12 #[.string (ByteArray.mk #[97, 108, 110, 117, 109]), .int .u8 c] w fun e w' => e = .returned (.tuple #[.bool (inK 0 c), .bool true]) ∧ w' = w := by
  have h := zz_any (ByteArray.mk #[97, 108, 110, 117, 109]) c w
  rw [kind_0] at h
  exact h
theorem kind_1 : kindOf (ByteArray.mk #[97, 108, 112, 104, 97]).toList = 1 := by
  show kindOf (ByteArray.mk (List.toArray [97, 108, 112, 104, 97])).toList = 1
  rw [ByteArray.toList_mk]; decide
theorem zz_1 (c : Int) (w : World) :
    Calls Try.prog 12 #[.string (ByteArray.mk #[97, 108, 112, 104, 97]), .int .u8 c] w fun e w' => e = .returned (.tuple #[.bool (inK 1 c), .bool true]) ∧ w' = w := by
  have h := zz_any (ByteArray.mk #[97, 108, 112, 104, 97]) c w
  rw [kind_1] at h
  exact h
theorem kind_2 : kindOf (ByteArray.mk #[98, 108, 97, 110, 107]).toList = 2 := by
  show kindOf (ByteArray.mk (List.toArray [98, 108, 97, 110, 107])).toList = 2
  rw [ByteArray.toList_mk]; decide
theorem zz_2 (c : Int) (w : World) :
    Calls Try.prog 12 #[.string (ByteArray.mk #[98, 108, 97, 110, 107]), .int .u8 c] w fun e w' => e = .returned (.tuple #[.bool (inK 2 c), .bool true]) ∧ w' = w := by
  have h := zz_any (ByteArray.mk #[98, 108, 97, 110, 107]) c w
  rw [kind_2] at h
  exact h
theorem kind_3 : kindOf (ByteArray.mk #[99, 110, 116, 114, 108]).toList = 3 := by
  show kindOf (ByteArray.mk (List.toArray [99, 110, 116, 114, 108])).toList = 3
  rw [ByteArray.toList_mk]; decide
theorem zz_3 (c : Int) (w : World) :
    Calls Try.prog 12 #[.string (ByteArray.mk #[99, 110, 116, 114, 108]), .int .u8 c] w fun e w' => e = .returned (.tuple #[.bool (inK 3 c), .bool true]) ∧ w' = w := by
  have h := zz_any (ByteArray.mk #[99, 110, 116, 114, 108]) c w
  rw [kind_3] at h
  exact h
theorem kind_4 : kindOf (ByteArray.mk #[100, 105, 103, 105, 116]).toList = 4 := by
  show kindOf (ByteArray.mk (List.toArray [100, 105, 103, 105, 116])).toList = 4
  rw [ByteArray.toList_mk]; decide
theorem zz_4 (c : Int) (w : World) :
    Calls Try.prog 12 #[.string (ByteArray.mk #[100, 105, 103, 105, 116]), .int .u8 c] w fun e w' => e = .returned (.tuple #[.bool (inK 4 c), .bool true]) ∧ w' = w := by
  have h := zz_any (ByteArray.mk #[100, 105, 103, 105, 116]) c w
  rw [kind_4] at h
  exact h
theorem kind_5 : kindOf (ByteArray.mk #[103, 114, 97, 112, 104]).toList = 5 := by
  show kindOf (ByteArray.mk (List.toArray [103, 114, 97, 112, 104])).toList = 5
  rw [ByteArray.toList_mk]; decide
theorem zz_5 (c : Int) (w : World) :
    Calls Try.prog 12 #[.string (ByteArray.mk #[103, 114, 97, 112, 104]), .int .u8 c] w fun e w' => e = .returned (.tuple #[.bool (inK 5 c), .bool true]) ∧ w' = w := by
  have h := zz_any (ByteArray.mk #[103, 114, 97, 112, 104]) c w
  rw [kind_5] at h
  exact h
theorem kind_6 : kindOf (ByteArray.mk #[108, 111, 119, 101, 114]).toList = 6 := by
  show kindOf (ByteArray.mk (List.toArray [108, 111, 119, 101, 114])).toList = 6
  rw [ByteArray.toList_mk]; decide
theorem zz_6 (c : Int) (w : World) :
    Calls Try.prog 12 #[.string (ByteArray.mk #[108, 111, 119, 101, 114]), .int .u8 c] w fun e w' => e = .returned (.tuple #[.bool (inK 6 c), .bool true]) ∧ w' = w := by
  have h := zz_any (ByteArray.mk #[108, 111, 119, 101, 114]) c w
  rw [kind_6] at h
  exact h
theorem kind_7 : kindOf (ByteArray.mk #[112, 114, 105, 110, 116]).toList = 7 := by
  show kindOf (ByteArray.mk (List.toArray [112, 114, 105, 110, 116])).toList = 7
  rw [ByteArray.toList_mk]; decide
theorem zz_7 (c : Int) (w : World) :
    Calls Try.prog 12 #[.string (ByteArray.mk #[112, 114, 105, 110, 116]), .int .u8 c] w fun e w' => e = .returned (.tuple #[.bool (inK 7 c), .bool true]) ∧ w' = w := by
  have h := zz_any (ByteArray.mk #[112, 114, 105, 110, 116]) c w
  rw [kind_7] at h
  exact h
theorem kind_8 : kindOf (ByteArray.mk #[112, 117, 110, 99, 116]).toList = 8 := by
  show kindOf (ByteArray.mk (List.toArray [112, 117, 110, 99, 116])).toList = 8
  rw [ByteArray.toList_mk]; decide
theorem zz_8 (c : Int) (w : World) :
    Calls Try.prog 12 #[.string (ByteArray.mk #[112, 117, 110, 99, 116]), .int .u8 c] w fun e w' => e = .returned (.tuple #[.bool (inK 8 c), .bool true]) ∧ w' = w := by
  have h := zz_any (ByteArray.mk #[112, 117, 110, 99, 116]) c w
  rw [kind_8] at h
  exact h
theorem kind_9 : kindOf (ByteArray.mk #[115, 112, 97, 99, 101]).toList = 9 := by
  show kindOf (ByteArray.mk (List.toArray [115, 112, 97, 99, 101])).toList = 9
  rw [ByteArray.toList_mk]; decide
theorem zz_9 (c : Int) (w : World) :
    Calls Try.prog 12 #[.string (ByteArray.mk #[115, 112, 97, 99, 101]), .int .u8 c] w fun e w' => e = .returned (.tuple #[.bool (inK 9 c), .bool true]) ∧ w' = w := by
  have h := zz_any (ByteArray.mk #[115, 112, 97, 99, 101]) c w
  rw [kind_9] at h
  exact h
theorem kind_10 : kindOf (ByteArray.mk #[117, 112, 112, 101, 114]).toList = 10 := by
  show kindOf (ByteArray.mk (List.toArray [117, 112, 112, 101, 114])).toList = 10
  rw [ByteArray.toList_mk]; decide
theorem zz_10 (c : Int) (w : World) :
    Calls Try.prog 12 #[.string (ByteArray.mk #[117, 112, 112, 101, 114]), .int .u8 c] w fun e w' => e = .returned (.tuple #[.bool (inK 10 c), .bool true]) ∧ w' = w := by
  have h := zz_any (ByteArray.mk #[117, 112, 112, 101, 114]) c w
  rw [kind_10] at h
  exact h
theorem kind_11 : kindOf (ByteArray.mk #[120, 100, 105, 103, 105, 116]).toList = 11 := by
  show kindOf (ByteArray.mk (List.toArray [120, 100, 105, 103, 105, 116])).toList = 11
  rw [ByteArray.toList_mk]; decide
theorem zz_11 (c : Int) (w : World) :
    Calls Try.prog 12 #[.string (ByteArray.mk #[120, 100, 105, 103, 105, 116]), .int .u8 c] w fun e w' => e = .returned (.tuple #[.bool (inK 11 c), .bool true]) ∧ w' = w := by
  have h := zz_any (ByteArray.mk #[120, 100, 105, 103, 105, 116]) c w
  rw [kind_11] at h
  exact h

set_option maxRecDepth 20000 in
set_option maxHeartbeats 2000000 in
theorem lat_0 (c : Int) (w : World) (H0 : Hid (inK 0 c = false)) (H1 : Hid (inK 1 c = false)) (H2 : Hid (inK 2 c = false)) (H3 : Hid (inK 3 c = true)) (H4 : Hid (inK 4 c = false)) (H5 : Hid (inK 5 c = false)) (H6 : Hid (inK 6 c = false)) (H7 : Hid (inK 7 c = false)) (H8 : Hid (inK 8 c = false)) (H9 : Hid (inK 9 c = false)) (H10 : Hid (inK 10 c = false)) (H11 : Hid (inK 11 c = false)) (_h32 : (c == 32) = false) (h128 : c < 128) :
    Calls Try.prog 4 #[.int .u8 c] w fun e w' => e = .returned (.bool true) ∧ w' = w := by
  have hd : decide (c < 128) = true := decide_eq_true h128
  go_enter Try.func4, Try.ntmps4
  go_wp2_with fail
  refine (zz_0 c _).mono ?_
  rw [H0.out]
  rintro _ _ ⟨rfl, hw⟩
  obtain rfl := hw.symm
  go_wp2_with fail
  refine (zz_1 c _).mono ?_
  rw [H1.out]
  rintro _ _ ⟨rfl, hw⟩
  obtain rfl := hw.symm
  go_wp2_with fail
  refine (zz_2 c _).mono ?_
  rw [H2.out]
  rintro _ _ ⟨rfl, hw⟩
  obtain rfl := hw.symm
  go_wp2_with fail
  refine (zz_3 c _).mono ?_
  rw [H3.out]
  rintro _ _ ⟨rfl, hw⟩
  obtain rfl := hw.symm
  go_wp2_with fail
  refine (zz_4 c _).mono ?_
  rw [H4.out]
  rintro _ _ ⟨rfl, hw⟩
  obtain rfl := hw.symm
  go_wp2_with fail
  refine (zz_5 c _).mono ?_
  rw [H5.out]
  rintro _ _ ⟨rfl, hw⟩
  obtain rfl := hw.symm
  go_wp2_with fail
  refine (zz_6 c _).mono ?_
  rw [H6.out]
  rintro _ _ ⟨rfl, hw⟩
  obtain rfl := hw.symm
  go_wp2_with fail
  refine (zz_7 c _).mono ?_
  rw [H7.out]
  rintro _ _ ⟨rfl, hw⟩
  obtain rfl := hw.symm
  go_wp2_with fail
  refine (zz_8 c _).mono ?_
  rw [H8.out]
  rintro _ _ ⟨rfl, hw⟩
  obtain rfl := hw.symm
  go_wp2_with fail
  refine (zz_9 c _).mono ?_
  rw [H9.out]
  rintro _ _ ⟨rfl, hw⟩
  obtain rfl := hw.symm
  go_wp2_with fail
  refine (zz_10 c _).mono ?_
  rw [H10.out]
  rintro _ _ ⟨rfl, hw⟩
  obtain rfl := hw.symm
  go_wp2_with fail
  refine (zz_11 c _).mono ?_
  rw [H11.out]
  rintro _ _ ⟨rfl, hw⟩
  obtain rfl := hw.symm
  go_wp2_with fail
  go_ret
  exact ⟨rfl, rfl⟩

set_option maxRecDepth 20000 in
set_option maxHeartbeats 2000000 in
theorem lat_1 (c : Int) (w : World) (H0 : Hid (inK 0 c = false)) (H1 : Hid (inK 1 c = false)) (H2 : Hid (inK 2 c = true)) (H3 : Hid (inK 3 c = true)) (H4 : Hid (inK 4 c = false)) (H5 : Hid (inK 5 c = false)) (H6 : Hid (inK 6 c = false)) (H7 : Hid (inK 7 c = false)) (H8 : Hid (inK 8 c = false)) (H9 : Hid (inK 9 c = true)) (H10 : Hid (inK 10 c = false)) (H11 : Hid (inK 11 c = false)) (_h32 : (c == 32) = false) (h128 : c < 128) :
    Calls Try.prog 4 #[.int .u8 c] w fun e w' => e = .returned (.bool true) ∧ w' = w := by
  have hd : decide (c < 128) = true := decide_eq_true h128
  go_enter Try.func4, Try.ntmps4
  go_wp2_with fail
  refine (zz_0 c _).mono ?_
  rw [H0.out]
  rintro _ _ ⟨rfl, hw⟩
  obtain rfl := hw.symm
  go_wp2_with fail
  refine (zz_1 c _).mono ?_
  rw [H1.out]
  rintro _ _ ⟨rfl, hw⟩
  obtain rfl := hw.symm
  go_wp2_with fail
  refine (zz_2 c _).mono ?_
  rw [H2.out]
  rintro _ _ ⟨rfl, hw⟩
  obtain rfl := hw.symm
  go_wp2_with fail
  refine (zz_3 c _).mono ?_
  rw [H3.out]
  rintro _ _ ⟨rfl, hw⟩
  obtain rfl := hw.symm
  go_wp2_with fail
  refine (zz_4 c _).mono ?_
  rw [H4.out]
  rintro _ _ ⟨rfl, hw⟩
  obtain rfl := hw.symm
  go_wp2_with fail
  refine (zz_5 c _).mono ?_
  rw [H5.out]
  rintro _ _ ⟨rfl, hw⟩
  obtain rfl := hw.symm
  go_wp2_with fail
  refine (zz_6 c _).mono ?_
  rw [H6.out]
  rintro _ _ ⟨rfl, hw⟩
  obtain rfl := hw.symm
  go_wp2_with fail
  refine (zz_7 c _).mono ?_
  rw [H7.out]
  rintro _ _ ⟨rfl, hw⟩
  obtain rfl := hw.symm
  go_wp2_with fail
  refine (zz_8 c _).mono ?_
  rw [H8.out]
  rintro _ _ ⟨rfl, hw⟩
  obtain rfl := hw.symm
  go_wp2_with fail
  refine (zz_9 c _).mono ?_
  rw [H9.out]
  rintro _ _ ⟨rfl, hw⟩
  obtain rfl := hw.symm
  go_wp2_with fail
  refine (zz_10 c _).mono ?_
  rw [H10.out]
  rintro _ _ ⟨rfl, hw⟩
  obtain rfl := hw.symm
  go_wp2_with fail
  refine (zz_11 c _).mono ?_
  rw [H11.out]
  rintro _ _ ⟨rfl, hw⟩
  obtain rfl := hw.symm
  go_wp2_with fail
  go_ret
  exact ⟨rfl, rfl⟩

set_option maxRecDepth 20000 in
set_option maxHeartbeats 2000000 in
theorem lat_2 (c : Int) (w : World) (H0 : Hid (inK 0 c = false)) (H1 : Hid (inK 1 c = false)) (H2 : Hid (inK 2 c = false)) (H3 : Hid (inK 3 c = true)) (H4 : Hid (inK 4 c = false)) (H5 : Hid (inK 5 c = false)) (H6 : Hid (inK 6 c = false)) (H7 : Hid (inK 7 c = false)) (H8 : Hid (inK 8 c = false)) (H9 : Hid (inK 9 c = true)) (H10 : Hid (inK 10 c = false)) (H11 : Hid (inK 11 c = false)) (_h32 : (c == 32) = false) (h128 : c < 128) :
    Calls Try.prog 4 #[.int .u8 c] w fun e w' => e = .returned (.bool true) ∧ w' = w := by
  have hd : decide (c < 128) = true := decide_eq_true h128
  go_enter Try.func4, Try.ntmps4
  go_wp2_with fail
  refine (zz_0 c _).mono ?_
  rw [H0.out]
  rintro _ _ ⟨rfl, hw⟩
  obtain rfl := hw.symm
  go_wp2_with fail
  refine (zz_1 c _).mono ?_
  rw [H1.out]
  rintro _ _ ⟨rfl, hw⟩
  obtain rfl := hw.symm
  go_wp2_with fail
  refine (zz_2 c _).mono ?_
  rw [H2.out]
  rintro _ _ ⟨rfl, hw⟩
  obtain rfl := hw.symm
  go_wp2_with fail
  refine (zz_3 c _).mono ?_
  rw [H3.out]
  rintro _ _ ⟨rfl, hw⟩
  obtain rfl := hw.symm
  go_wp2_with fail
  refine (zz_4 c _).mono ?_
  rw [H4.out]
  rintro _ _ ⟨rfl, hw⟩
  obtain rfl := hw.symm
  go_wp2_with fail
  refine (zz_5 c _).mono ?_
  rw [H5.out]
  rintro _ _ ⟨rfl, hw⟩
  obtain rfl := hw.symm
  go_wp2_with fail
  refine (zz_6 c _).mono ?_
  rw [H6.out]
  rintro _ _ ⟨rfl, hw⟩
  obtain rfl := hw.symm
  go_wp2_with fail
  refine (zz_7 c _).mono ?_
  rw [H7.out]
  rintro _ _ ⟨rfl, hw⟩
  obtain rfl := hw.symm
  go_wp2_with fail
  refine (zz_8 c _).mono ?_
  rw [H8.out]
  rintro _ _ ⟨rfl, hw⟩
  obtain rfl := hw.symm
  go_wp2_with fail
  refine (zz_9 c _).mono ?_
  rw [H9.out]
  rintro _ _ ⟨rfl, hw⟩
  obtain rfl := hw.symm
  go_wp2_with fail
  refine (zz_10 c _).mono ?_
  rw [H10.out]
  rintro _ _ ⟨rfl, hw⟩
  obtain rfl := hw.symm
  go_wp2_with fail
  refine (zz_11 c _).mono ?_
  rw [H11.out]
  rintro _ _ ⟨rfl, hw⟩
  obtain rfl := hw.symm
  go_wp2_with fail
  go_ret
  exact ⟨rfl, rfl⟩

set_option maxRecDepth 20000 in
set_option maxHeartbeats 2000000 in
theorem lat_3 (c : Int) (w : World) (H0 : Hid (inK 0 c = false)) (H1 : Hid (inK 1 c = false)) (H2 : Hid (inK 2 c = true)) (H3 : Hid (inK 3 c = false)) (H4 : Hid (inK 4 c = false)) (H5 : Hid (inK 5 c = false)) (H6 : Hid (inK 6 c = false)) (H7 : Hid (inK 7 c = true)) (H8 : Hid (inK 8 c = false)) (H9 : Hid (inK 9 c = true)) (H10 : Hid (inK 10 c = false)) (H11 : Hid (inK 11 c = false)) (_h32 : (c == 32) = true) (h128 : c < 128) :
    Calls Try.prog 4 #[.int .u8 c] w fun e w' => e = .returned (.bool true) ∧ w' = w := by
  have hd : decide (c < 128) = true := decide_eq_true h128
  go_enter Try.func4, Try.ntmps4
  go_wp2_with fail
  refine (zz_0 c _).mono ?_
  rw [H0.out]
  rintro _ _ ⟨rfl, hw⟩
  obtain rfl := hw.symm
  go_wp2_with fail
  refine (zz_1 c _).mono ?_
  rw [H1.out]
  rintro _ _ ⟨rfl, hw⟩
  obtain rfl := hw.symm
  go_wp2_with fail
  refine (zz_2 c _).mono ?_
  rw [H2.out]
  rintro _ _ ⟨rfl, hw⟩
  obtain rfl := hw.symm
  go_wp2_with fail
  refine (zz_3 c _).mono ?_
  rw [H3.out]
  rintro _ _ ⟨rfl, hw⟩
  obtain rfl := hw.symm
  go_wp2_with fail
  refine (zz_4 c _).mono ?_
  rw [H4.out]
  rintro _ _ ⟨rfl, hw⟩
  obtain rfl := hw.symm
  go_wp2_with fail
  refine (zz_5 c _).mono ?_
  rw [H5.out]
  rintro _ _ ⟨rfl, hw⟩
  obtain rfl := hw.symm
  go_wp2_with fail
  refine (zz_6 c _).mono ?_
  rw [H6.out]
  rintro _ _ ⟨rfl, hw⟩
  obtain rfl := hw.symm
  go_wp2_with fail
  refine (zz_7 c _).mono ?_
  rw [H7.out]
  rintro _ _ ⟨rfl, hw⟩
  obtain rfl := hw.symm
  go_wp2_with fail
  refine (zz_8 c _).mono ?_
  rw [H8.out]
  rintro _ _ ⟨rfl, hw⟩
  obtain rfl := hw.symm
  go_wp2_with fail
  refine (zz_9 c _).mono ?_
  rw [H9.out]
  rintro _ _ ⟨rfl, hw⟩
  obtain rfl := hw.symm
  go_wp2_with fail
  refine (zz_10 c _).mono ?_
  rw [H10.out]
  rintro _ _ ⟨rfl, hw⟩
  obtain rfl := hw.symm
  go_wp2_with fail
  refine (zz_11 c _).mono ?_
  rw [H11.out]
  rintro _ _ ⟨rfl, hw⟩
  obtain rfl := hw.symm
  go_wp2_with fail
  go_ret
  exact ⟨rfl, rfl⟩

set_option maxRecDepth 20000 in
set_option maxHeartbeats 2000000 in
theorem lat_4 (c : Int) (w : World) (H0 : Hid (inK 0 c = false)) (H1 : Hid (inK 1 c = false)) (H2 : Hid (inK 2 c = false)) (H3 : Hid (inK 3 c = false)) (H4 : Hid (inK 4 c = false)) (H5 : Hid (inK 5 c = true)) (H6 : Hid (inK 6 c = false)) (H7 : Hid (inK 7 c = true)) (H8 : Hid (inK 8 c = true)) (H9 : Hid (inK 9 c = false)) (H10 : Hid (inK 10 c = false)) (H11 : Hid (inK 11 c = false)) (_h32 : (c == 32) = false) (h128 : c < 128) :
    Calls Try.prog 4 #[.int .u8 c] w fun e w' => e = .returned (.bool true) ∧ w' = w := by
  have hd : decide (c < 128) = true := decide_eq_true h128
  go_enter Try.func4, Try.ntmps4
  go_wp2_with fail
  refine (zz_0 c _).mono ?_
  rw [H0.out]
  rintro _ _ ⟨rfl, hw⟩
  obtain rfl := hw.symm
  go_wp2_with fail
  refine (zz_1 c _).mono ?_
  rw [H1.out]
  rintro _ _ ⟨rfl, hw⟩
  obtain rfl := hw.symm
  go_wp2_with fail
  refine (zz_2 c _).mono ?_
  rw [H2.out]
  rintro _ _ ⟨rfl, hw⟩
  obtain rfl := hw.symm
  go_wp2_with fail
  refine (zz_3 c _).mono ?_
  rw [H3.out]
  rintro _ _ ⟨rfl, hw⟩
  obtain rfl := hw.symm
  go_wp2_with fail
  refine (zz_4 c _).mono ?_
  rw [H4.out]
  rintro _ _ ⟨rfl, hw⟩
  obtain rfl := hw.symm
  go_wp2_with fail
  refine (zz_5 c _).mono ?_
  rw [H5.out]
  rintro _ _ ⟨rfl, hw⟩
  obtain rfl := hw.symm
  go_wp2_with fail
  refine (zz_6 c _).mono ?_
  rw [H6.out]
  rintro _ _ ⟨rfl, hw⟩
  obtain rfl := hw.symm
  go_wp2_with fail
  refine (zz_7 c _).mono ?_
  rw [H7.out]
  rintro _ _ ⟨rfl, hw⟩
  obtain rfl := hw.symm
  go_wp2_with fail
  refine (zz_8 c _).mono ?_
  rw [H8.out]
  rintro _ _ ⟨rfl, hw⟩
  obtain rfl := hw.symm
  go_wp2_with fail
  refine (zz_9 c _).mono ?_
  rw [H9.out]
  rintro _ _ ⟨rfl, hw⟩
  obtain rfl := hw.symm
  go_wp2_with fail
  refine (zz_10 c _).mono ?_
  rw [H10.out]
  rintro _ _ ⟨rfl, hw⟩
  obtain rfl := hw.symm
  go_wp2_with fail
  refine (zz_11 c _).mono ?_
  rw [H11.out]
  rintro _ _ ⟨rfl, hw⟩
  obtain rfl := hw.symm
  go_wp2_with fail
  go_ret
  exact ⟨rfl, rfl⟩

set_option maxRecDepth 20000 in
set_option maxHeartbeats 2000000 in
theorem lat_5 (c : Int) (w : World) (H0 : Hid (inK 0 c = true)) (H1 : Hid (inK 1 c = false)) (H2 : Hid (inK 2 c = false)) (H3 : Hid (inK 3 c = false)) (H4 : Hid (inK 4 c = true)) (H5 : Hid (inK 5 c = true)) (H6 : Hid (inK 6 c = false)) (H7 : Hid (inK 7 c = true)) (H8 : Hid (inK 8 c = false)) (H9 : Hid (inK 9 c = false)) (H10 : Hid (inK 10 c = false)) (H11 : Hid (inK 11 c = true)) (_h32 : (c == 32) = false) (h128 : c < 128) :
    Calls Try.prog 4 #[.int .u8 c] w fun e w' => e = .returned (.bool true) ∧ w' = w := by
  have hd : decide (c < 128) = true := decide_eq_true h128
  go_enter Try.func4, Try.ntmps4
  go_wp2_with fail
  refine (zz_0 c _).mono ?_
  rw [H0.out]
  rintro _ _ ⟨rfl, hw⟩
  obtain rfl := hw.symm
  go_wp2_with fail
  refine (zz_1 c _).mono ?_
  rw [H1.out]
  rintro _ _ ⟨rfl, hw⟩
  obtain rfl := hw.symm
  go_wp2_with fail
  refine (zz_2 c _).mono ?_
  rw [H2.out]
  rintro _ _ ⟨rfl, hw⟩
  obtain rfl := hw.symm
  go_wp2_with fail
  refine (zz_3 c _).mono ?_
  rw [H3.out]
  rintro _ _ ⟨rfl, hw⟩
  obtain rfl := hw.symm
  go_wp2_with fail
  refine (zz_4 c _).mono ?_
  rw [H4.out]
  rintro _ _ ⟨rfl, hw⟩
  obtain rfl := hw.symm
  go_wp2_with fail
  refine (zz_5 c _).mono ?_
  rw [H5.out]
  rintro _ _ ⟨rfl, hw⟩
  obtain rfl := hw.symm
  go_wp2_with fail
  refine (zz_6 c _).mono ?_
  rw [H6.out]
  rintro _ _ ⟨rfl, hw⟩
  obtain rfl := hw.symm
  go_wp2_with fail
  refine (zz_7 c _).mono ?_
  rw [H7.out]
  rintro _ _ ⟨rfl, hw⟩
  obtain rfl := hw.symm
  go_wp2_with fail
  refine (zz_8 c _).mono ?_
  rw [H8.out]
  rintro _ _ ⟨rfl, hw⟩
  obtain rfl := hw.symm
  go_wp2_with fail
  refine (zz_9 c _).mono ?_
  rw [H9.out]
  rintro _ _ ⟨rfl, hw⟩
  obtain rfl := hw.symm
  go_wp2_with fail
  refine (zz_10 c _).mono ?_
  rw [H10.out]
  rintro _ _ ⟨rfl, hw⟩
  obtain rfl := hw.symm
  go_wp2_with fail
  refine (zz_11 c _).mono ?_
  rw [H11.out]
  rintro _ _ ⟨rfl, hw⟩
  obtain rfl := hw.symm
  go_wp2_with fail
  go_ret
  exact ⟨rfl, rfl⟩

set_option maxRecDepth 20000 in
set_option maxHeartbeats 2000000 in
theorem lat_6 (c : Int) (w : World) (H0 : Hid (inK 0 c = true)) (H1 : Hid (inK 1 c = true)) (H2 : Hid (inK 2 c = false)) (H3 : Hid (inK 3 c = false)) (H4 : Hid (inK 4 c = false)) (H5 : Hid (inK 5 c = true)) (H6 : Hid (inK 6 c = false)) (H7 : Hid (inK 7 c = true)) (H8 : Hid (inK 8 c = false)) (H9 : Hid (inK 9 c = false)) (H10 : Hid (inK 10 c = true)) (H11 : Hid (inK 11 c = true)) (_h32 : (c == 32) = false) (h128 : c < 128) :
    Calls Try.prog 4 #[.int .u8 c] w fun e w' => e = .returned (.bool true) ∧ w' = w := by
  have hd : decide (c < 128) = true := decide_eq_true h128
  go_enter Try.func4, Try.ntmps4
  go_wp2_with fail
  refine (zz_0 c _).mono ?_
  rw [H0.out]
  rintro _ _ ⟨rfl, hw⟩
  obtain rfl := hw.symm
  go_wp2_with fail
  refine (zz_1 c _).mono ?_
  rw [H1.out]
  rintro _ _ ⟨rfl, hw⟩
  obtain rfl := hw.symm
  go_wp2_with fail
  refine (zz_2 c _).mono ?_
  rw [H2.out]
  rintro _ _ ⟨rfl, hw⟩
  obtain rfl := hw.symm
  go_wp2_with fail
  refine (zz_3 c _).mono ?_
  rw [H3.out]
  rintro _ _ ⟨rfl, hw⟩
  obtain rfl := hw.symm
  go_wp2_with fail
  refine (zz_4 c _).mono ?_
  rw [H4.out]
  rintro _ _ ⟨rfl, hw⟩
  obtain rfl := hw.symm
  go_wp2_with fail
  refine (zz_5 c _).mono ?_
  rw [H5.out]
  rintro _ _ ⟨rfl, hw⟩
  obtain rfl := hw.symm
  go_wp2_with fail
  refine (zz_6 c _).mono ?_
  rw [H6.out]
  rintro _ _ ⟨rfl, hw⟩
  obtain rfl := hw.symm
  go_wp2_with fail
  refine (zz_7 c _).mono ?_
  rw [H7.out]
  rintro _ _ ⟨rfl, hw⟩
  obtain rfl := hw.symm
  go_wp2_with fail
  refine (zz_8 c _).mono ?_
  rw [H8.out]
  rintro _ _ ⟨rfl, hw⟩
  obtain rfl := hw.symm
  go_wp2_with fail
  refine (zz_9 c _).mono ?_
  rw [H9.out]
  rintro _ _ ⟨rfl, hw⟩
  obtain rfl := hw.symm
  go_wp2_with fail
  refine (zz_10 c _).mono ?_
  rw [H10.out]
  rintro _ _ ⟨rfl, hw⟩
  obtain rfl := hw.symm
  go_wp2_with fail
  refine (zz_11 c _).mono ?_
  rw [H11.out]
  rintro _ _ ⟨rfl, hw⟩
  obtain rfl := hw.symm
  go_wp2_with fail
  go_ret
  exact ⟨rfl, rfl⟩

set_option maxRecDepth 20000 in
set_option maxHeartbeats 2000000 in
theorem lat_7 (c : Int) (w : World) (H0 : Hid (inK 0 c = true)) (H1 : Hid (inK 1 c = true)) (H2 : Hid (inK 2 c = false)) (H3 : Hid (inK 3 c = false)) (H4 : Hid (inK 4 c = false)) (H5 : Hid (inK 5 c = true)) (H6 : Hid (inK 6 c = false)) (H7 : Hid (inK 7 c = true)) (H8 : Hid (inK 8 c = false)) (H9 : Hid (inK 9 c = false)) (H10 : Hid (inK 10 c = true)) (H11 : Hid (inK 11 c = false)) (_h32 : (c == 32) = false) (h128 : c < 128) :
    Calls Try.prog 4 #[.int .u8 c] w fun e w' => e = .returned (.bool true) ∧ w' = w := by
  have hd : decide (c < 128) = true := decide_eq_true h128
  go_enter Try.func4, Try.ntmps4
  go_wp2_with fail
  refine (zz_0 c _).mono ?_
  rw [H0.out]
  rintro _ _ ⟨rfl, hw⟩
  obtain rfl := hw.symm
  go_wp2_with fail
  refine (zz_1 c _).mono ?_
  rw [H1.out]
  rintro _ _ ⟨rfl, hw⟩
  obtain rfl := hw.symm
  go_wp2_with fail
  refine (zz_2 c _).mono ?_
  rw [H2.out]
  rintro _ _ ⟨rfl, hw⟩
  obtain rfl := hw.symm
  go_wp2_with fail
  refine (zz_3 c _).mono ?_
  rw [H3.out]
  rintro _ _ ⟨rfl, hw⟩
  obtain rfl := hw.symm
  go_wp2_with fail
  refine (zz_4 c _).mono ?_
  rw [H4.out]
  rintro _ _ ⟨rfl, hw⟩
  obtain rfl := hw.symm
  go_wp2_with fail
  refine (zz_5 c _).mono ?_
  rw [H5.out]
  rintro _ _ ⟨rfl, hw⟩
  obtain rfl := hw.symm
  go_wp2_with fail
  refine (zz_6 c _).mono ?_
  rw [H6.out]
  rintro _ _ ⟨rfl, hw⟩
  obtain rfl := hw.symm
  go_wp2_with fail
  refine (zz_7 c _).mono ?_
  rw [H7.out]
  rintro _ _ ⟨rfl, hw⟩
  obtain rfl := hw.symm
  go_wp2_with fail
  refine (zz_8 c _).mono ?_
  rw [H8.out]
  rintro _ _ ⟨rfl, hw⟩
  obtain rfl := hw.symm
  go_wp2_with fail
  refine (zz_9 c _).mono ?_
  rw [H9.out]
  rintro _ _ ⟨rfl, hw⟩
  obtain rfl := hw.symm
  go_wp2_with fail
  refine (zz_10 c _).mono ?_
  rw [H10.out]
  rintro _ _ ⟨rfl, hw⟩
  obtain rfl := hw.symm
  go_wp2_with fail
  refine (zz_11 c _).mono ?_
  rw [H11.out]
  rintro _ _ ⟨rfl, hw⟩
  obtain rfl := hw.symm
  go_wp2_with fail
  go_ret
  exact ⟨rfl, rfl⟩

set_option maxRecDepth 20000 in
set_option maxHeartbeats 2000000 in
theorem lat_8 (c : Int) (w : World) (H0 : Hid (inK 0 c = true)) (H1 : Hid (inK 1 c = true)) (H2 : Hid (inK 2 c = false)) (H3 : Hid (inK 3 c = false)) (H4 : Hid (inK 4 c = false)) (H5 : Hid (inK 5 c = true)) (H6 : Hid (inK 6 c = true)) (H7 : Hid (inK 7 c = true)) (H8 : Hid (inK 8 c = false)) (H9 : Hid (inK 9 c = false)) (H10 : Hid (inK 10 c = false)) (H11 : Hid (inK 11 c = true)) (_h32 : (c == 32) = false) (h128 : c < 128) :
    Calls Try.prog 4 #[.int .u8 c] w fun e w' => e = .returned (.bool true) ∧ w' = w := by
  have hd : decide (c < 128) = true := decide_eq_true h128
  go_enter Try.func4, Try.ntmps4
  go_wp2_with fail
  refine (zz_0 c _).mono ?_
  rw [H0.out]
  rintro _ _ ⟨rfl, hw⟩
  obtain rfl := hw.symm
  go_wp2_with fail
  refine (zz_1 c _).mono ?_
  rw [H1.out]
  rintro _ _ ⟨rfl, hw⟩
  obtain rfl := hw.symm
  go_wp2_with fail
  refine (zz_2 c _).mono ?_
  rw [H2.out]
  rintro _ _ ⟨rfl, hw⟩
  obtain rfl := hw.symm
  go_wp2_with fail
  refine (zz_3 c _).mono ?_
  rw [H3.out]
  rintro _ _ ⟨rfl, hw⟩
  obtain rfl := hw.symm
  go_wp2_with fail
  refine (zz_4 c _).mono ?_
  rw [H4.out]
  rintro _ _ ⟨rfl, hw⟩
  obtain rfl := hw.symm
  go_wp2_with fail
  refine (zz_5 c _).mono ?_
  rw [H5.out]
  rintro _ _ ⟨rfl, hw⟩
  obtain rfl := hw.symm
  go_wp2_with fail
  refine (zz_6 c _).mono ?_
  rw [H6.out]
  rintro _ _ ⟨rfl, hw⟩
  obtain rfl := hw.symm
  go_wp2_with fail
  refine (zz_7 c _).mono ?_
  rw [H7.out]
  rintro _ _ ⟨rfl, hw⟩
  obtain rfl := hw.symm
  go_wp2_with fail
  refine (zz_8 c _).mono ?_
  rw [H8.out]
  rintro _ _ ⟨rfl, hw⟩
  obtain rfl := hw.symm
  go_wp2_with fail
  refine (zz_9 c _).mono ?_
  rw [H9.out]
  rintro _ _ ⟨rfl, hw⟩
  obtain rfl := hw.symm
  go_wp2_with fail
  refine (zz_10 c _).mono ?_
  rw [H10.out]
  rintro _ _ ⟨rfl, hw⟩
  obtain rfl := hw.symm
  go_wp2_with fail
  refine (zz_11 c _).mono ?_
  rw [H11.out]
  rintro _ _ ⟨rfl, hw⟩
  obtain rfl := hw.symm
  go_wp2_with fail
  go_ret
  exact ⟨rfl, rfl⟩

set_option maxRecDepth 20000 in
set_option maxHeartbeats 2000000 in
theorem lat_9 (c : Int) (w : World) (H0 : Hid (inK 0 c = true)) (H1 : Hid (inK 1 c = true)) (H2 : Hid (inK 2 c = false)) (H3 : Hid (inK 3 c = false)) (H4 : Hid (inK 4 c = false)) (H5 : Hid (inK 5 c = true)) (H6 : Hid (inK 6 c = true)) (H7 : Hid (inK 7 c = true)) (H8 : Hid (inK 8 c = false)) (H9 : Hid (inK 9 c = false)) (H10 : Hid (inK 10 c = false)) (H11 : Hid (inK 11 c = false)) (_h32 : (c == 32) = false) (h128 : c < 128) :
    Calls Try.prog 4 #[.int .u8 c] w fun e w' => e = .returned (.bool true) ∧ w' = w := by
  have hd : decide (c < 128) = true := decide_eq_true h128
  go_enter Try.func4, Try.ntmps4
  go_wp2_with fail
  refine (zz_0 c _).mono ?_
  rw [H0.out]
  rintro _ _ ⟨rfl, hw⟩
  obtain rfl := hw.symm
  go_wp2_with fail
  refine (zz_1 c _).mono ?_
  rw [H1.out]
  rintro _ _ ⟨rfl, hw⟩
  obtain rfl := hw.symm
  go_wp2_with fail
  refine (zz_2 c _).mono ?_
  rw [H2.out]
  rintro _ _ ⟨rfl, hw⟩
  obtain rfl := hw.symm
  go_wp2_with fail
  refine (zz_3 c _).mono ?_
  rw [H3.out]
  rintro _ _ ⟨rfl, hw⟩
  obtain rfl := hw.symm
  go_wp2_with fail
  refine (zz_4 c _).mono ?_
  rw [H4.out]
  rintro _ _ ⟨rfl, hw⟩
  obtain rfl := hw.symm
  go_wp2_with fail
  refine (zz_5 c _).mono ?_
  rw [H5.out]
  rintro _ _ ⟨rfl, hw⟩
  obtain rfl := hw.symm
  go_wp2_with fail
  refine (zz_6 c _).mono ?_
  rw [H6.out]
  rintro _ _ ⟨rfl, hw⟩
  obtain rfl := hw.symm
  go_wp2_with fail
  refine (zz_7 c _).mono ?_
  rw [H7.out]
  rintro _ _ ⟨rfl, hw⟩
  obtain rfl := hw.symm
  go_wp2_with fail
  refine (zz_8 c _).mono ?_
  rw [H8.out]
  rintro _ _ ⟨rfl, hw⟩
  obtain rfl := hw.symm
  go_wp2_with fail
  refine (zz_9 c _).mono ?_
  rw [H9.out]
  rintro _ _ ⟨rfl, hw⟩
  obtain rfl := hw.symm
  go_wp2_with fail
  refine (zz_10 c _).mono ?_
  rw [H10.out]
  rintro _ _ ⟨rfl, hw⟩
  obtain rfl := hw.symm
  go_wp2_with fail
  refine (zz_11 c _).mono ?_
  rw [H11.out]
  rintro _ _ ⟨rfl, hw⟩
  obtain rfl := hw.symm
  go_wp2_with fail
  go_ret
  exact ⟨rfl, rfl⟩

set_option maxRecDepth 20000 in
set_option maxHeartbeats 2000000 in
theorem lat_10 (c : Int) (w : World) (H0 : Hid (inK 0 c = false)) (H1 : Hid (inK 1 c = false)) (H2 : Hid (inK 2 c = false)) (H3 : Hid (inK 3 c = false)) (H4 : Hid (inK 4 c = false)) (H5 : Hid (inK 5 c = false)) (H6 : Hid (inK 6 c = false)) (H7 : Hid (inK 7 c = false)) (H8 : Hid (inK 8 c = false)) (H9 : Hid (inK 9 c = false)) (H10 : Hid (inK 10 c = false)) (H11 : Hid (inK 11 c = false)) (_h32 : (c == 32) = false) (h128 : ¬ c < 128) :
    Calls Try.prog 4 #[.int .u8 c] w fun e w' => e = .returned (.bool true) ∧ w' = w := by
  have hd : decide (c < 128) = false := decide_eq_false h128
  go_enter Try.func4, Try.ntmps4
  go_wp2_with fail
  refine (zz_0 c _).mono ?_
  rw [H0.out]
  rintro _ _ ⟨rfl, hw⟩
  obtain rfl := hw.symm
  go_wp2_with fail
  refine (zz_1 c _).mono ?_
  rw [H1.out]
  rintro _ _ ⟨rfl, hw⟩
  obtain rfl := hw.symm
  go_wp2_with fail
  refine (zz_2 c _).mono ?_
  rw [H2.out]
  rintro _ _ ⟨rfl, hw⟩
  obtain rfl := hw.symm
  go_wp2_with fail
  refine (zz_3 c _).mono ?_
  rw [H3.out]
  rintro _ _ ⟨rfl, hw⟩
  obtain rfl := hw.symm
  go_wp2_with fail
  refine (zz_4 c _).mono ?_
  rw [H4.out]
  rintro _ _ ⟨rfl, hw⟩
  obtain rfl := hw.symm
  go_wp2_with fail
  refine (zz_5 c _).mono ?_
  rw [H5.out]
  rintro _ _ ⟨rfl, hw⟩
  obtain rfl := hw.symm
  go_wp2_with fail
  refine (zz_6 c _).mono ?_
  rw [H6.out]
  rintro _ _ ⟨rfl, hw⟩
  obtain rfl := hw.symm
  go_wp2_with fail
  refine (zz_7 c _).mono ?_
  rw [H7.out]
  rintro _ _ ⟨rfl, hw⟩
  obtain rfl := hw.symm
  go_wp2_with fail
  refine (zz_8 c _).mono ?_
  rw [H8.out]
  rintro _ _ ⟨rfl, hw⟩
  obtain rfl := hw.symm
  go_wp2_with fail
  refine (zz_9 c _).mono ?_
  rw [H9.out]
  rintro _ _ ⟨rfl, hw⟩
  obtain rfl := hw.symm
  go_wp2_with fail
  refine (zz_10 c _).mono ?_
  rw [H10.out]
  rintro _ _ ⟨rfl, hw⟩
  obtain rfl := hw.symm
  go_wp2_with fail
  refine (zz_11 c _).mono ?_
  rw [H11.out]
  rintro _ _ ⟨rfl, hw⟩
  obtain rfl := hw.symm
  go_wp2_with fail
  go_ret
  exact ⟨rfl, rfl⟩

theorem lattice_all (c : Int) (w : World) (h0 : 0 ≤ c) (h1 : c ≤ 255) :
    Calls Try.prog 4 #[.int .u8 c] w fun e w' => e = .returned (.bool true) ∧ w' = w := by
  rcases ranges h0 h1 with ⟨a, b⟩ | ⟨a, b⟩ | ⟨a, b⟩ | ⟨a, b⟩ | ⟨a, b⟩ | ⟨a, b⟩ | ⟨a, b⟩ | ⟨a, b⟩ | ⟨a, b⟩ | ⟨a, b⟩ | ⟨a, b⟩ | ⟨a, b⟩ | ⟨a, b⟩ | ⟨a, b⟩ | ⟨a, b⟩ | ⟨a, b⟩
  · obtain ⟨f0, f1, f2, f3, f4, f5, f6, f7, f8, f9, f10, f11⟩ := cls_0 a b
    exact lat_0 c w f0 f1 f2 f3 f4 f5 f6 f7 f8 f9 f10 f11 (by simp; omega) (by omega)
  · obtain ⟨f0, f1, f2, f3, f4, f5, f6, f7, f8, f9, f10, f11⟩ := cls_1 a b
    exact lat_1 c w f0 f1 f2 f3 f4 f5 f6 f7 f8 f9 f10 f11 (by simp; omega) (by omega)
  · obtain ⟨f0, f1, f2, f3, f4, f5, f6, f7, f8, f9, f10, f11⟩ := cls_2 a b
    exact lat_2 c w f0 f1 f2 f3 f4 f5 f6 f7 f8 f9 f10 f11 (by simp; omega) (by omega)
  · obtain ⟨f0, f1, f2, f3, f4, f5, f6, f7, f8, f9, f10, f11⟩ := cls_3 a b
    exact lat_0 c w f0 f1 f2 f3 f4 f5 f6 f7 f8 f9 f10 f11 (by simp; omega) (by omega)
  · obtain ⟨f0, f1, f2, f3, f4, f5, f6, f7, f8, f9, f10, f11⟩ := cls_4 a b
    exact lat_3 c w f0 f1 f2 f3 f4 f5 f6 f7 f8 f9 f10 f11 (by simp; omega) (by omega)
  · obtain ⟨f0, f1, f2, f3, f4, f5, f6, f7, f8, f9, f10, f11⟩ := cls_5 a b
    exact lat_4 c w f0 f1 f2 f3 f4 f5 f6 f7 f8 f9 f10 f11 (by simp; omega) (by omega)
  · obtain ⟨f0, f1, f2, f3, f4, f5, f6, f7, f8, f9, f10, f11⟩ := cls_6 a b
    exact lat_5 c w f0 f1 f2 f3 f4 f5 f6 f7 f8 f9 f10 f11 (by simp; omega) (by omega)
  · obtain ⟨f0, f1, f2, f3, f4, f5, f6, f7, f8, f9, f10, f11⟩ := cls_7 a b
    exact lat_4 c w f0 f1 f2 f3 f4 f5 f6 f7 f8 f9 f10 f11 (by simp; omega) (by omega)
  · obtain ⟨f0, f1, f2, f3, f4, f5, f6, f7, f8, f9, f10, f11⟩ := cls_8 a b
    exact lat_6 c w f0 f1 f2 f3 f4 f5 f6 f7 f8 f9 f10 f11 (by simp; omega) (by omega)
  · obtain ⟨f0, f1, f2, f3, f4, f5, f6, f7, f8, f9, f10, f11⟩ := cls_9 a b
    exact lat_7 c w f0 f1 f2 f3 f4 f5 f6 f7 f8 f9 f10 f11 (by simp; omega) (by omega)
  · obtain ⟨f0, f1, f2, f3, f4, f5, f6, f7, f8, f9, f10, f11⟩ := cls_10 a b
    exact lat_4 c w f0 f1 f2 f3 f4 f5 f6 f7 f8 f9 f10 f11 (by simp; omega) (by omega)
  · obtain ⟨f0, f1, f2, f3, f4, f5, f6, f7, f8, f9, f10, f11⟩ := cls_11 a b
    exact lat_8 c w f0 f1 f2 f3 f4 f5 f6 f7 f8 f9 f10 f11 (by simp; omega) (by omega)
  · obtain ⟨f0, f1, f2, f3, f4, f5, f6, f7, f8, f9, f10, f11⟩ := cls_12 a b
    exact lat_9 c w f0 f1 f2 f3 f4 f5 f6 f7 f8 f9 f10 f11 (by simp; omega) (by omega)
  · obtain ⟨f0, f1, f2, f3, f4, f5, f6, f7, f8, f9, f10, f11⟩ := cls_13 a b
    exact lat_4 c w f0 f1 f2 f3 f4 f5 f6 f7 f8 f9 f10 f11 (by simp; omega) (by omega)
  · obtain ⟨f0, f1, f2, f3, f4, f5, f6, f7, f8, f9, f10, f11⟩ := cls_14 a b
    exact lat_0 c w f0 f1 f2 f3 f4 f5 f6 f7 f8 f9 f10 f11 (by simp; omega) (by omega)
  · obtain ⟨f0, f1, f2, f3, f4, f5, f6, f7, f8, f9, f10, f11⟩ := cls_15 a b
    exact lat_10 c w f0 f1 f2 f3 f4 f5 f6 f7 f8 f9 f10 f11 (by simp; omega) (by omega)

end Go.Proofs.Qxb6602330a
