import Derived.Test.Qxb6602279aDecWalk
namespace Go.Proofs.Qxb6602279a
open Go.RowKit Plain

/-- what shortInt answers on m digits behind a sign or none -/
def sOK (d : Nat → Int) (m : Nat) : Bool := decide (m ≤ 18) && allDig d m
def sRes (ng : Bool) (d : Nat → Int) (m : Nat) : Int := if sOK d m then (if ng then -val d m else val d m) else 0

theorem ret_short_no {ng : Bool} {d : Nat → Int} {m : Nat} (h : sOK d m = false) : Ending.returned (.tuple #[.int .i64 0, .bool false]) = .returned (.tuple #[.int .i64 (sRes ng d m), .bool (sOK d m)]) := by
  rw [sRes, h]; rfl
theorem ret_short_pos {d : Nat → Int} {m : Nat} {x : Int} (h : sOK d m = true) (hx : x = val d m) : Ending.returned (.tuple #[.int .i64 x, .bool true]) = .returned (.tuple #[.int .i64 (sRes false d m), .bool (sOK d m)]) := by
  rw [sRes, h, hx]; rfl
theorem ret_short_neg {d : Nat → Int} {m : Nat} {x : Int} (h : sOK d m = true) (hx : x = -val d m) : Ending.returned (.tuple #[.int .i64 x, .bool true]) = .returned (.tuple #[.int .i64 (sRes true d m), .bool (sOK d m)]) := by
  rw [sRes, h, hx]; rfl
theorem sOK_long {d : Nat → Int} {m : Nat} (h : 18 < m) : sOK d m = false := by
  unfold sOK; rw [decide_eq_false (by omega)]; rfl
theorem sOK_no {d : Nat → Int} {m : Nat} (h : allDig d m = false) : sOK d m = false := by
  unfold sOK; rw [h, Bool.and_false]
theorem sOK_yes {d : Nat → Int} {m : Nat} (hm : m ≤ 18) (h : allDig d m = true) : sOK d m = true := by
  unfold sOK; rw [h, decide_eq_true hm]; rfl

set_option maxRecDepth 20000 in
set_option maxHeartbeats 1000000 in
theorem short_pos (b off n c : Nat) (g : Nat → Int) (w : World) (h1 : 0 < n) (hn : n ≤ 1048576) (h45 : g 0 ≠ 45) (hc : ∀ j, j < n → w.cell? ⟨b, off + j, none⟩ = some (.int .u8 (g j))) :
    Calls Try.prog 33 #[.slice (some ⟨b, off, none⟩) n c] w fun e w' => e = .returned (.tuple #[.int .i64 (sRes false g n), .bool (sOK g n)]) ∧ w' = w := by
  have hc0 : w.cell? ⟨b, off, none⟩ = some (.int .u8 (g 0)) := by have := hc 0 h1; rwa [Nat.add_zero] at this
  have hd : (g 0 == 45) = false := by simpa using h45
  have hS0 : Seg w (some ⟨b, off, none⟩) n g := .inr ⟨b, off, rfl, hc⟩
  have hi : (0 : Int) < (n : Int) := by omega
  clear h45 hc
  go_enter Try.func33, Try.ntmps33
  go_upto_if 12 with fail
  go_cut [4] from 13 to 14 (fun v wx => (∃ a' c', v = .slice a' n c' ∧ Seg w a' n g) ∧ w = wx)
  case first =>
    go_wp2
    go_meet
    exact ⟨⟨_, _, rfl, hS0⟩, rfl⟩
  case rest =>
    obtain ⟨⟨a', c', rfl, hS⟩, rfl⟩ := hcut
    by_cases h18 : 18 < n
    · have HC : Hid (sOK g n = false) := sOK_long h18
      go_wp2
      go_ret2
      exact ⟨ret_short_no HC.out, rfl⟩
    · go_wp2
      go_loop [5, 20] (fun v i => ∃ k : Nat, k ≤ n ∧ i = .int .i64 k ∧ Hid (allDig g k = true) ∧ ∃ x : Int, 0 ≤ x ∧ x < 1000000000000000000 ∧ v = .int .i64 x ∧ Hid (x = val g k)) (fun _ i => n - (intOf i).toNat)
      case atStart => exact ⟨0, by omega, rfl, rfl, 0, by omega, by omega, rfl, rfl⟩
      case round =>
        obtain ⟨k, hk, rfl, HA, x, x0, x1, rfl, HX⟩ := hrel
        by_cases hlt : k < n
        · obtain ⟨b', off', rfl, hcs⟩ : ∃ b' off', a' = some ⟨b', off', none⟩ ∧ ∀ j, j < n → w.cell? ⟨b', off' + j, none⟩ = some (.int .u8 (g j)) := by
            rcases hS with h | h
            · omega
            · exact h
          have hcell := hcs k hlt
          clear hcs hS
          obtain ⟨y, hy⟩ : ∃ y, y = g k := ⟨_, rfl⟩
          rw [← hy] at hcell
          by_cases hdig : 48 ≤ y ∧ y ≤ 57
          · obtain ⟨d0, d1⟩ := hdig
            have hA2 : allDig g (k + 1) = true := by rw [allDig, HA.out, isDig_iff.2 (by rw [← hy]; exact ⟨d0, d1⟩)]; rfl
            have hlim := val_lim (by omega) hA2
            rw [val, ← HX.out, ← hy] at hlim
            obtain ⟨l0, l1⟩ := hlim
            have HA2 : Hid (allDig g (k + 1) = true) := hA2
            have HY : Hid (y = g k) := hy
            have x2 : x < 100000000000000000 := by omega
            clear hy hA2
            go_wp2
            go_round
            case rel => exact ⟨k + 1, by omega, by go_num, HA2.out, _, by omega, by omega, rfl, by show _ = _; rw [val, ← HX.out, ← HY.out]⟩
            case measure => simp [intOf]; omega
          · have HC : Hid (sOK g n = false) := sOK_no (allDig_no hlt (by rw [← hy]; exact hdig))
            clear hy
            by_cases q1 : y < 48
            · clear hdig
              go_wp2
              go_ret2
              exact ⟨ret_short_no HC.out, rfl⟩
            · have q2 : 57 < y := by omega
              clear hdig
              go_wp2
              go_ret2
              exact ⟨ret_short_no HC.out, rfl⟩
        · have hkm : k = n := by omega
          have HC : Hid (sOK g n = true) := sOK_yes (by omega) (by rw [← hkm]; exact HA.out)
          have HX2 : Hid (x = val g n) := by show _ = _; rw [← hkm]; exact HX.out
          clear hkm
          go_wp2
          go_ret2
          exact ⟨ret_short_pos HC.out HX2.out, rfl⟩

set_option maxRecDepth 20000 in
set_option maxHeartbeats 1000000 in
theorem short_neg (b off m : Nat) (g d : Nat → Int) (w : World) (hn : m + 1 ≤ 1048576) (h45 : g 0 = 45) (hdg : ∀ j, d j = g (1 + j)) (hc : ∀ j, j < m + 1 → w.cell? ⟨b, off + j, none⟩ = some (.int .u8 (g j))) :
    Calls Try.prog 33 #[.slice (some ⟨b, off, none⟩) (m + 1) (m + 1)] w fun e w' => e = .returned (.tuple #[.int .i64 (sRes true d m), .bool (sOK d m)]) ∧ w' = w := by
  have hc0 : w.cell? ⟨b, off, none⟩ = some (.int .u8 45) := by have := hc 0 (by omega); rwa [Nat.add_zero, h45] at this
  have hS0 : m = 0 ∨ Seg w (some ⟨b, off + 1, none⟩) m d := by
    rcases Nat.eq_zero_or_pos m with h | h
    · exact .inl h
    · exact .inr (.inr ⟨b, off + 1, rfl, fun j hj => by have := hc (1 + j) (by omega); rw [hdg, Nat.add_assoc]; exact this⟩)
  clear h45 hc hdg
  go_enter Try.func33, Try.ntmps33
  go_upto_if 12 with fail
  go_cut [4] from 13 to 14 (fun v wx => (∃ a' c', v = .slice a' m c' ∧ Seg w a' m d) ∧ w = wx)
  case first =>
    rcases hS0 with rfl | hS0
    · go_wp2
      go_meet
      exact ⟨⟨_, _, rfl, .inl rfl⟩, rfl⟩
    · by_cases h0 : m = 0
      · subst h0
        go_wp2
        go_meet
        exact ⟨⟨_, _, rfl, .inl rfl⟩, rfl⟩
      · go_wp2
        go_meet
        exact ⟨⟨_, _, rfl, hS0⟩, rfl⟩
  case rest =>
    obtain ⟨⟨a', c', rfl, hS⟩, rfl⟩ := hcut
    by_cases h18 : 18 < m
    · have HC : Hid (sOK d m = false) := sOK_long h18
      go_wp2
      go_ret2
      exact ⟨ret_short_no HC.out, rfl⟩
    · go_wp2
      go_loop [5, 20] (fun v i => ∃ k : Nat, k ≤ m ∧ i = .int .i64 k ∧ Hid (allDig d k = true) ∧ ∃ x : Int, 0 ≤ x ∧ x < 1000000000000000000 ∧ v = .int .i64 x ∧ Hid (x = val d k)) (fun _ i => m - (intOf i).toNat)
      case atStart => exact ⟨0, by omega, rfl, rfl, 0, by omega, by omega, rfl, rfl⟩
      case round =>
        obtain ⟨k, hk, rfl, HA, x, x0, x1, rfl, HX⟩ := hrel
        by_cases hlt : k < m
        · obtain ⟨b', off', rfl, hcs⟩ : ∃ b' off', a' = some ⟨b', off', none⟩ ∧ ∀ j, j < m → w.cell? ⟨b', off' + j, none⟩ = some (.int .u8 (d j)) := by
            rcases hS with h | h
            · omega
            · exact h
          have hcell := hcs k hlt
          clear hcs hS
          obtain ⟨y, hy⟩ : ∃ y, y = d k := ⟨_, rfl⟩
          rw [← hy] at hcell
          by_cases hdig : 48 ≤ y ∧ y ≤ 57
          · obtain ⟨d0, d1⟩ := hdig
            have hA2 : allDig d (k + 1) = true := by rw [allDig, HA.out, isDig_iff.2 (by rw [← hy]; exact ⟨d0, d1⟩)]; rfl
            have hlim := val_lim (by omega) hA2
            rw [val, ← HX.out, ← hy] at hlim
            obtain ⟨l0, l1⟩ := hlim
            have HA2 : Hid (allDig d (k + 1) = true) := hA2
            have HY : Hid (y = d k) := hy
            have x2 : x < 100000000000000000 := by omega
            clear hy hA2
            go_wp2
            go_round
            case rel => exact ⟨k + 1, by omega, by go_num, HA2.out, _, by omega, by omega, rfl, by show _ = _; rw [val, ← HX.out, ← HY.out]⟩
            case measure => simp [intOf]; omega
          · have HC : Hid (sOK d m = false) := sOK_no (allDig_no hlt (by rw [← hy]; exact hdig))
            clear hy
            by_cases q1 : y < 48
            · clear hdig
              go_wp2
              go_ret2
              exact ⟨ret_short_no HC.out, rfl⟩
            · have q2 : 57 < y := by omega
              clear hdig
              go_wp2
              go_ret2
              exact ⟨ret_short_no HC.out, rfl⟩
        · have hkm : k = m := by omega
          have HC : Hid (sOK d m = true) := sOK_yes (by omega) (by rw [← hkm]; exact HA.out)
          have HX2 : Hid (x = val d m) := by show _ = _; rw [← hkm]; exact HX.out
          clear hkm
          go_wp2
          go_ret2
          exact ⟨ret_short_neg HC.out (by rw [HX2.out]), rfl⟩

theorem zzshort_pos (b off n c : Nat) (g : Nat → Int) (w : World) (h1 : 0 < n) (hn : n ≤ 1048576) (h45 : g 0 ≠ 45) (hc : ∀ j, j < n → w.cell? ⟨b, off + j, none⟩ = some (.int .u8 (g j))) :
    Calls Try.prog 23 #[.slice (some ⟨b, off, none⟩) n c] w fun e w' => e = .returned (.tuple #[.int .i64 (sRes false g n), .bool (sOK g n)]) ∧ w' = w := by
  go_enter Try.func23, Try.ntmps23
  go_wp2_with (go_at_call 33; refine (short_pos b off n c g _ h1 hn h45 hc).mono ?_; rintro _ _ ⟨rfl, hw⟩; obtain rfl := hw.symm)
  go_ret2
  exact ⟨rfl, rfl⟩

theorem zzshort_neg (b off m : Nat) (g d : Nat → Int) (w : World) (hn : m + 1 ≤ 1048576) (h45 : Hid (g 0 = 45)) (hdg : Hid (∀ j, d j = g (1 + j))) (hc : ∀ j, j < m + 1 → w.cell? ⟨b, off + j, none⟩ = some (.int .u8 (g j))) :
    Calls Try.prog 23 #[.slice (some ⟨b, off, none⟩) (m + 1) (m + 1)] w fun e w' => e = .returned (.tuple #[.int .i64 (sRes true d m), .bool (sOK d m)]) ∧ w' = w := by
  go_enter Try.func23, Try.ntmps23
  go_wp2_with (go_at_call 33; refine (short_neg b off m g d _ hn h45.out hdg.out hc).mono ?_; rintro _ _ ⟨rfl, hw⟩; obtain rfl := hw.symm)
  go_ret2
  exact ⟨rfl, rfl⟩

end Go.Proofs.Qxb6602279a
