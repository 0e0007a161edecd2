import Derived.Test.Qxb6602279aHexWalk
import Derived.Test.Qxb6602279aClone
import Derived.Test.Qxb6602279aBytes
import Derived.Deep.QuietTactic
import Derived.BigQuiet
namespace Go.Proofs.Qxb6602279a
open Go.RowKit Plain

theorem hexlaw_long (a : Option Addr) (n c : Nat) (w : World) (h : 1048576 < n) :
    Calls Try.prog 6 #[.slice a n c] w fun e w' => e = .returned (.bool true) ∧ w' = w := by
  go_enter Try.func6, Try.ntmps6
  go_wp2_with (go_at_call 16; refine (bytes16_no _ _ _ _ h).mono ?_; rintro e w' ⟨rfl, rfl⟩)
  go_ret
  exact ⟨rfl, rfl⟩

set_option maxHeartbeats 1000000 in
theorem hexlaw_nil (w : World) :
    Calls Try.prog 6 #[.slice none 0 0] w fun e w' => e = .returned (.bool true) ∧ w' = w := by
  go_enter Try.func6, Try.ntmps6
  go_wp2_with (first | (go_at_call 16; refine (bytes16_yes _ _ _ _ (by omega)).mono ?_; rintro _ _ ⟨rfl, hw⟩; obtain rfl := hw.symm) | (go_at_call 11; refine (clone_nil _).mono ?_; rintro _ _ ⟨rfl, hw⟩; obtain rfl := hw.symm) | (go_at_call 17; refine (zzhex_short _ _ _ _ (by omega)).mono ?_; rintro _ _ ⟨rfl, hw⟩; obtain rfl := hw.symm))
  go_loop [5, 6] (fun v k => v = .bool false ∧ k = .int .i64 0) (fun _ _ => 0)
  case atStart => exact ⟨rfl, rfl⟩
  case round =>
    obtain ⟨rfl, rfl⟩ := hrel
    go_wp2
    go_ret
    exact ⟨rfl, rfl⟩

set_option maxHeartbeats 1000000 in
theorem hexlaw_short (x : Addr) (n c : Nat) (g : Nat → Int) (w : World) (hn : n < 4) (hx : ∀ j, j < n → w.cell? (x.add j) = some (.int .u8 (g j))) :
    Calls Try.prog 6 #[.slice (some x) n c] w fun e w' => e = .returned (.bool true) ∧ Below w.heap.size w w' := by
  go_enter Try.func6, Try.ntmps6
  go_wp2_with (first | (go_at_call 16; refine (bytes16_yes _ _ _ _ (by omega)).mono ?_; rintro _ _ ⟨rfl, hw⟩; obtain rfl := hw.symm) | (go_at_call 11; refine (clone_some x n c g _ (by omega) hx).mono ?_; rintro _ w1 ⟨rfl, hc1, hbel, hsz⟩) | (go_at_call 17; refine (zzhex_short _ _ _ _ hn).mono ?_; rintro _ _ ⟨rfl, hw⟩; obtain rfl := hw.symm))
  go_loop [5, 6] (fun v k => v = .bool false ∧ k = .int .i64 0) (fun _ _ => 0)
  case atStart => exact ⟨by simp; omega, rfl⟩
  case round =>
    obtain ⟨rfl, rfl⟩ := hrel
    go_wp2
    go_ret
    exact ⟨rfl, hbel⟩

set_option maxHeartbeats 1000000 in
theorem hexlaw_no (x : Addr) (n c : Nat) (g : Nat → Int) (w : World) (hn : n ≤ 1048576) (h4 : 4 ≤ n) (hg : ∀ j, 0 ≤ g j ∧ g j ≤ 255) (hx : ∀ j, j < n → w.cell? (x.add j) = some (.int .u8 (g j))) (hno : allHex g 4 = false) :
    Calls Try.prog 6 #[.slice (some x) n c] w fun e w' => e = .returned (.bool true) ∧ Below w.heap.size w w' := by
  have HR : Hid (hexRes g = 0) := by show _ = _; rw [hexRes, hno]; rfl
  have HN : Hid (allHex g 4 = false) := hno
  clear hno
  go_enter Try.func6, Try.ntmps6
  go_wp2_with (first | (go_at_call 16; refine (bytes16_yes _ _ _ _ hn).mono ?_; rintro _ _ ⟨rfl, hw⟩; obtain rfl := hw.symm) | (go_at_call 11; refine (clone_some x n c g _ hn hx).mono ?_; rintro _ w1 ⟨rfl, hc1, hbel, hsz⟩) | (go_at_call 17; refine (zzhex_long _ _ _ _ g _ hn h4 (Nat.le_refl _) hg hc1).mono ?_; rw [HR.out, HN.out]; rintro _ _ ⟨rfl, hw⟩; obtain rfl := hw.symm))
  go_loop [5, 6] (fun v i => ∃ k : Nat, k ≤ 4 ∧ i = .int .i64 k ∧ v = .bool (allHex g k)) (fun _ i => 4 - (intOf i).toNat)
  case atStart => exact ⟨0, by omega, rfl, by simp [allHex]; omega⟩
  case round =>
    obtain ⟨k, hk, rfl, rfl⟩ := hrel
    by_cases hlt : k < 4
    · have hcell := hc1 k (by omega)
      rw [Nat.zero_add] at hcell
      obtain ⟨g0, g1⟩ := hg k
      cases ha : allHex g k with
      | false =>
        go_wp2
        go_ret
        exact ⟨rfl, hbel⟩
      | true =>
        cases hb : isHex (g k) with
        | true =>
          have HA : Hid (allHex g (k + 1) = true) := by show _ = _; rw [allHex, ha, hb]; rfl
          go_wp2_with (go_at_call 18; refine (isHex_any _ _ g0 g1).mono ?_; rw [hb]; rintro _ _ ⟨rfl, hw⟩; obtain rfl := hw.symm)
          go_round
          case rel => exact ⟨k + 1, by omega, by go_num, by rw [HA.out]⟩
          case measure => simp [intOf]; omega
        | false =>
          have HA : Hid (allHex g (k + 1) = false) := by show _ = _; rw [allHex, ha, hb]; rfl
          go_wp2_with (go_at_call 18; refine (isHex_any _ _ g0 g1).mono ?_; rw [hb]; rintro _ _ ⟨rfl, hw⟩; obtain rfl := hw.symm)
          go_round
          case rel => exact ⟨k + 1, by omega, by go_num, by rw [HA.out]⟩
          case measure => simp [intOf]; omega
    · obtain rfl : k = 4 := by omega
      rw [HN.out]
      go_wp2
      go_ret
      exact ⟨rfl, hbel⟩

theorem and15 (a : Int) (h0 : 0 ≤ a) (h1 : a < 2147483648) : bits .and .i32 a 15 = a % 16 := by
  obtain ⟨m, rfl⟩ : ∃ m : Nat, a = m := ⟨a.toNat, by omega⟩
  show IntKind.i32.wrap ((BitVec.ofInt 32 (m : Int) &&& BitVec.ofInt 32 15).toNat : Int) = _
  have h15 : (BitVec.ofInt 32 15).toNat = 15 := by decide
  rw [BitVec.toNat_and, ofInt_u32 m (by omega), h15, nat_mask4]
  rw [wrap_i32_small _ (by omega) (by omega)]
  omega

theorem hex_eq {c : Int} {v : Nat} (hc : isHex c = true) (h : hv c = v) (hp : v < (ByteArray.mk #[48, 49, 50, 51, 52, 53, 54, 55, 56, 57, 97, 98, 99, 100, 101, 102]).size) :
    (((((ByteArray.mk #[48, 49, 50, 51, 52, 53, 54, 55, 56, 57, 97, 98, 99, 100, 101, 102])[v]'hp).toNat : Nat) : Int) == fold c) = true := by
  have hb := hv_bd c
  rw [hex_at v (by omega) hp, fold_hexd hc, h]
  simp

set_option maxHeartbeats 1000000 in
theorem hexlaw_yes (x : Addr) (n c : Nat) (g : Nat → Int) (w : World) (hn : n ≤ 1048576) (h4 : 4 ≤ n) (hg : ∀ j, 0 ≤ g j ∧ g j ≤ 255) (hx : ∀ j, j < n → w.cell? (x.add j) = some (.int .u8 (g j))) (hyes : allHex g 4 = true) :
    Calls Try.prog 6 #[.slice (some x) n c] w fun e w' => e = .returned (.bool true) ∧ Below w.heap.size w w' := by
  have HR : Hid (hexRes g = hexAcc g 4) := by show _ = _; rw [hexRes, hyes]; rfl
  have HN : Hid (allHex g 4 = true) := hyes
  obtain ⟨r0, r1⟩ := hexAcc_bd g 4 (by omega) hyes
  rw [show (16 : Int) ^ 4 = 65536 by decide] at r1
  have HQ : Hid (∀ k, k < 4 → hexAcc g 4 / 2 ^ (12 - 4 * k) % 16 = hv (g k)) := fun k hk => nib hyes k hk
  obtain ⟨R, hR⟩ : ∃ R, R = hexAcc g 4 := ⟨_, rfl⟩
  rw [← hR] at HR r0 r1 HQ
  clear hyes hR
  go_enter Try.func6, Try.ntmps6
  go_wp2_with (first | (go_at_call 16; refine (bytes16_yes _ _ _ _ hn).mono ?_; rintro _ _ ⟨rfl, hw⟩; obtain rfl := hw.symm) | (go_at_call 11; refine (clone_some x n c g _ hn hx).mono ?_; rintro _ w1 ⟨rfl, hc1, hbel, hsz⟩) | (go_at_call 17; refine (zzhex_long _ _ _ _ g _ hn h4 (Nat.le_refl _) hg hc1).mono ?_; rw [HR.out, HN.out]; rintro _ _ ⟨rfl, hw⟩; obtain rfl := hw.symm))
  go_loop [5, 6] (fun v i => ∃ k : Nat, k ≤ 4 ∧ i = .int .i64 k ∧ v = .bool true) (fun _ i => 4 - (intOf i).toNat)
  case atStart => exact ⟨0, by omega, rfl, by simp; omega⟩
  case round =>
    obtain ⟨k, hk, rfl, rfl⟩ := hrel
    by_cases hlt : k < 4
    · have hcell := hc1 k (by omega)
      rw [Nat.zero_add] at hcell
      obtain ⟨g0, g1⟩ := hg k
      have hb : Hid (isHex (g k) = true) := allHex_4 HN.out k hlt
      go_wp2_with (go_at_call 18; refine (isHex_any _ _ g0 g1).mono ?_; rw [hb.out]; rintro _ _ ⟨rfl, hw⟩; obtain rfl := hw.symm)
      go_round
      case rel => exact ⟨k + 1, by omega, by go_num, rfl⟩
      case measure => simp [intOf]; omega
    · obtain rfl : k = 4 := by omega
      go_wp2
      have HC : Hid (∀ j, j < n → w1.cell? ⟨w.heap.size, j, none⟩ = some (.int .u8 (g j))) := fun j hj => by have := hc1 j hj; rwa [Nat.zero_add] at this
      clear hc1
      go_loopw [7] (fun i wr => ∃ k : Nat, k ≤ 4 ∧ i = .int .i64 k ∧ Hid (∀ j, j < n → wr.cell? ⟨w.heap.size, j, none⟩ = some (.int .u8 (g j))) ∧ Below w.heap.size w wr) (fun i _ => 4 - (intOf i).toNat)
      case atStart => exact ⟨0, by omega, rfl, HC, hbel⟩
      case round =>
        clear HC
        obtain ⟨k, hk, rfl, HC, hbel⟩ := hrel
        by_cases hlt : k < 4
        · have hcell := HC.out k (by omega)
          obtain ⟨g0, g1⟩ := hg k
          have hq := HQ.out k hlt
          have hh := allHex_4 HN.out k hlt
          have hv0 := (isHex_iff _).1 hh
          have hv1 := hv_bd (g k)
          obtain ⟨v, hv⟩ : ∃ v : Nat, hv (g k) = v := ⟨(hv (g k)).toNat, by omega⟩
          have hv16 : v < 16 := by omega
          have hvi : (v : Int) < 16 := by omega
          have heq := hex_eq hh hv (by show v < 16; omega)
          rw [hv] at hq
          clear hh hv0 hv1 hv
          obtain rfl | rfl | rfl | rfl : k = 0 ∨ k = 1 ∨ k = 2 ∨ k = 3 := by omega
          · have hbit : bits .and .i32 (R / 4096) 15 = (v : Int) := by
              rw [and15 _ (by omega) (by omega)]; simpa using hq
            have hki : 0 < n := by omega
            clear hq
            go_wp2
            go_quiet ((go_at_call 19; exact Calls.quiet_of_same (fold_any _ _ g0 g1)))
            go_wp2
            go_roundw
            case rel => exact ⟨1, by omega, rfl, HC.out, below_drewN hbel _⟩
            case measure => simp [intOf]
          · have hbit : bits .and .i32 (R / 256) 15 = (v : Int) := by
              rw [and15 _ (by omega) (by omega)]; simpa using hq
            have hki : (1 : Int) < (n : Int) := by omega
            clear hq
            go_wp2
            go_quiet ((go_at_call 19; exact Calls.quiet_of_same (fold_any _ _ g0 g1)))
            go_wp2
            go_roundw
            case rel => exact ⟨2, by omega, rfl, HC.out, below_drewN hbel _⟩
            case measure => simp [intOf]
          · have hbit : bits .and .i32 (R / 16) 15 = (v : Int) := by
              rw [and15 _ (by omega) (by omega)]; simpa using hq
            have hki : (2 : Int) < (n : Int) := by omega
            clear hq
            go_wp2
            go_quiet ((go_at_call 19; exact Calls.quiet_of_same (fold_any _ _ g0 g1)))
            go_wp2
            go_roundw
            case rel => exact ⟨3, by omega, rfl, HC.out, below_drewN hbel _⟩
            case measure => simp [intOf]
          · have hbit : bits .and .i32 R 15 = (v : Int) := by
              rw [and15 _ (by omega) (by omega)]; simpa using hq
            have hki : (3 : Int) < (n : Int) := by omega
            clear hq
            go_wp2
            go_quiet ((go_at_call 19; exact Calls.quiet_of_same (fold_any _ _ g0 g1)))
            go_wp2
            go_roundw
            case rel => exact ⟨4, by omega, rfl, HC.out, below_drewN hbel _⟩
            case measure => simp [intOf]
        · go_wp2
          go_ret
          exact ⟨rfl, hbel⟩

end Go.Proofs.Qxb6602279a
