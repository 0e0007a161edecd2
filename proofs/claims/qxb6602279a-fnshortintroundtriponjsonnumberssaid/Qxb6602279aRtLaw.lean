import Derived.Test.Qxb6602279aShortLaw
import Derived.Test.Qxb6602279aStepWalk
import Derived.Test.Qxb6602279aScan
import Derived.Test.Qxb6602279aRtPlain
namespace Go.Proofs.Qxb6602279a
open Go.RowKit Plain

theorem rt_long (a : Option Addr) (n c : Nat) (w : World) (h : 1048576 < n) :
    Calls Try.prog 9 #[.slice a n c] w fun e w' => e = .returned (.bool true) ∧ w' = w := by
  go_enter Try.func9, Try.ntmps9
  go_wp2_with (go_at_call 27; refine (bytes27_no _ _ _ _ h).mono ?_; rintro e w' ⟨rfl, rfl⟩)
  go_ret
  exact ⟨rfl, rfl⟩

theorem rt_empty (a : Option Addr) (c : Nat) (w : World) :
    Calls Try.prog 9 #[.slice a 0 c] w fun e w' => e = .returned (.bool true) ∧ w' = w := by
  go_enter Try.func9, Try.ntmps9
  go_wp2_with (go_at_call 27; refine (bytes27_yes _ _ _ _ (by omega)).mono ?_; rintro e w' ⟨rfl, rfl⟩)
  go_ret
  exact ⟨rfl, rfl⟩

set_option maxHeartbeats 1000000 in
theorem rt_skip (x : Addr) (n c : Nat) (g : Nat → Int) (w : World) (h1 : 0 < n) (hn : n ≤ 1048576) (hx : ∀ j, j < n → w.cell? (x.add j) = some (.int .u8 (g j))) (hsc : scan g n 0 ≠ (n, true)) :
    Calls Try.prog 9 #[.slice (some x) n c] w fun e w' => e = .returned (.bool true) ∧ Below w.heap.size w w' := by
  have hm : n ≤ maxLen := by unfold maxLen; omega
  have hi0 : ((n : Int) == 0) = false := by simp; omega
  have hi1 : ¬ n = 0 := by omega
  obtain ⟨e, ok, he⟩ : ∃ e ok, scan g n 0 = (e, ok) := ⟨_, _, rfl⟩
  have HE : Hid (scan g n 0 = (e, ok)) := he
  have HN : Hid (ok = true → ((e : Int) == (n : Int)) = false) := by
    intro h; rw [he] at hsc; subst h; simp at hsc ⊢; omega
  clear he hsc
  cases ok with
  | false =>
    go_enter Try.func9, Try.ntmps9
    go_wp2_with (first | (go_at_call 27; refine (bytes27_yes _ _ _ _ hn).mono ?_; rintro _ _ ⟨rfl, hw⟩; obtain rfl := hw.symm) | (go_at_call 11; refine (clone_some x _ c g _ hn hx).mono ?_; rintro _ w1 ⟨rfl, hc1, hbel, hsz⟩) | fail)
    have hS : Seg w1 (some ⟨w.heap.size, 0, none⟩) n g := .inr ⟨_, _, rfl, hc1⟩
    refine (zzscan_any _ _ _ g _ 0 rfl _ hm (by omega) hS).mono ?_
    rw [HE.out]
    rintro _ _ ⟨rfl, hw⟩
    obtain rfl := hw.symm
    go_wp2
    go_ret
    exact ⟨rfl, hbel⟩
  | true =>
    have hen := HN.out rfl
    have hen2 : ((e : Int) != (n : Int)) = true := by simpa using hen
    go_enter Try.func9, Try.ntmps9
    go_wp2_with (first | (go_at_call 27; refine (bytes27_yes _ _ _ _ hn).mono ?_; rintro _ _ ⟨rfl, hw⟩; obtain rfl := hw.symm) | (go_at_call 11; refine (clone_some x _ c g _ hn hx).mono ?_; rintro _ w1 ⟨rfl, hc1, hbel, hsz⟩) | fail)
    have hS : Seg w1 (some ⟨w.heap.size, 0, none⟩) n g := .inr ⟨_, _, rfl, hc1⟩
    refine (zzscan_any _ _ _ g _ 0 rfl _ hm (by omega) hS).mono ?_
    rw [HE.out]
    rintro _ _ ⟨rfl, hw⟩
    obtain rfl := hw.symm
    go_wp2
    go_ret
    exact ⟨rfl, hbel⟩

set_option maxRecDepth 20000 in
set_option maxHeartbeats 2000000 in
theorem rt_pos_no (x : Addr) (n c : Nat) (g : Nat → Int) (w : World) (h1 : 0 < n) (hn : n ≤ 1048576) (h45 : g 0 ≠ 45) (hx : ∀ j, j < n → w.cell? (x.add j) = some (.int .u8 (g j))) (HSC : Hid (scan g n 0 = (n, true))) (hOK : sOK g n = false) (HWH : Hid (wh g n = false ∨ 18 < n)) :
    Calls Try.prog 9 #[.slice (some x) n c] w fun e w' => e = .returned (.bool true) ∧ Below w.heap.size w w' := by
  have hm : n ≤ maxLen := by unfold maxLen; omega
  have HR : Hid (sRes false g n = 0) := by show _ = _; rw [sRes, hOK]; rfl
  have HOK : Hid (sOK g n = false) := hOK
  clear hOK
  have hd : (g 0 == 45) = false := by simpa using h45
  have H45 : Hid (g 0 ≠ 45) := h45
  clear h45
  have hi : (0 : Int) < (n : Int) := by omega
  have hi0 : ((n : Int) == 0) = false := by simp; omega
  have hi1 : ¬ n = 0 := by omega
  go_enter Try.func9, Try.ntmps9
  go_wp2_with (first | (go_at_call 27; refine (bytes27_yes _ _ _ _ hn).mono ?_; rintro _ _ ⟨rfl, hw⟩; obtain rfl := hw.symm) | (go_at_call 11; refine (clone_some x _ c g _ hn hx).mono ?_; rintro _ w1 ⟨rfl, hc1, hbel, hsz⟩) | fail)
  have hS : Seg w1 (some ⟨w.heap.size, 0, none⟩) n g := .inr ⟨_, _, rfl, hc1⟩
  refine (zzscan_any _ _ _ g _ 0 rfl _ hm (by omega) hS).mono ?_
  rw [HSC.out]
  rintro _ _ ⟨rfl, hw⟩
  obtain rfl := hw.symm
  go_wp2_with fail
  refine (zzshort_pos w.heap.size 0 n n g _ h1 hn H45.out hc1).mono ?_
  rw [HR.out, HOK.out]
  rintro _ _ ⟨rfl, hw⟩
  obtain rfl := hw.symm
  have hc0 : w1.cell? ⟨w.heap.size, 0, none⟩ = some (.int .u8 (g 0)) := by have := hc1 0 (by omega); rwa [Nat.zero_add] at this
  have HS : Hid (∀ j, j < n → w1.cell? ⟨w.heap.size, 0 + j, none⟩ = some (.int .u8 (g j))) := hc1
  clear hc1 hw hx hS
  go_wp2_with fail
  go_loop [7, 8] (fun t i => ∃ k : Nat, k ≤ n ∧ i = .int .i64 k ∧ t = .bool (wh g k)) (fun _ i => n - (intOf i).toNat)
  case atStart => exact ⟨0, by omega, rfl, rfl⟩
  case round =>
    obtain ⟨k, hk, rfl, rfl⟩ := hrel
    by_cases hlt : k < n
    · have hcell := HS.out k hlt
      rw [Nat.zero_add] at hcell
      cases hdot : (g k == 46) with
      | true =>
        have HW : Hid (wh g (k + 1) = false) := by show _ = _; rw [wh, hdot]; simp
        go_wp2_with fail
        go_round
        case rel => exact ⟨k + 1, by omega, by go_num, by rw [HW.out]⟩
        case measure => simp [intOf]; omega
      | false =>
        cases hexp : isExp (g k) with
        | true =>
          have HW : Hid (wh g (k + 1) = false) := by show _ = _; rw [wh, hexp]; simp
          have HE : Hid (isExp (g k) = true) := hexp
          clear hexp
          go_wp2_with (go_at_call 28; refine (isExp_any _ _).mono ?_; rw [HE.out]; rintro _ _ ⟨rfl, hw⟩; obtain rfl := hw.symm)
          go_round
          case rel => exact ⟨k + 1, by omega, by go_num, by rw [HW.out]⟩
          case measure => simp [intOf]; omega
        | false =>
          have HW : Hid (wh g (k + 1) = wh g k) := by show _ = _; rw [wh, hdot, hexp]; simp
          have HE : Hid (isExp (g k) = false) := hexp
          clear hexp
          go_wp2_with (go_at_call 28; refine (isExp_any _ _).mono ?_; rw [HE.out]; rintro _ _ ⟨rfl, hw⟩; obtain rfl := hw.symm)
          go_round
          case rel => exact ⟨k + 1, by omega, by go_num, by rw [HW.out]⟩
          case measure => simp [intOf]; omega
    · have hkn : k = n := by omega
      subst hkn
      cases hwh : wh g k with
      | false =>
        clear hwh
        go_wp2_with fail
        go_ret
        exact ⟨rfl, hbel⟩
      | true =>
        have h18 : 18 < k := by rcases HWH.out with h | h; rw [hwh] at h; simp at h; exact h
        have h18i : ¬ (k : Int) ≤ 18 := by omega
        have h18d : decide ((k : Int) ≤ 18) = false := decide_eq_false h18i
        clear hwh h18i
        go_wp2_with fail
        go_ret
        exact ⟨rfl, hbel⟩

set_option maxRecDepth 20000 in
set_option maxHeartbeats 2000000 in
theorem rt_neg_no (x : Addr) (n m c : Nat) (g d : Nat → Int) (w : World) (hn : n ≤ 1048576) (HM : Hid (m + 1 = n)) (h45 : Hid (g 0 = 45)) (hdg : Hid (∀ j, d j = g (1 + j))) (hx : ∀ j, j < n → w.cell? (x.add j) = some (.int .u8 (g j))) (HSC : Hid (scan g n 0 = (n, true))) (hOK : sOK d m = false) (HWH : Hid (wh g n = false ∨ 18 < m)) :
    Calls Try.prog 9 #[.slice (some x) n c] w fun e w' => e = .returned (.bool true) ∧ Below w.heap.size w w' := by
  have hm : n ≤ maxLen := by unfold maxLen; omega
  have HR : Hid (sRes true d m = 0) := by show _ = _; rw [sRes, hOK]; rfl
  have HOK : Hid (sOK d m = false) := hOK
  clear hOK
  have hm1 : m < n := by have := HM.out; omega
  have hm2 : n ≤ m + 1 := by have := HM.out; omega
  have hi : (0 : Int) < (n : Int) := by omega
  have hi0 : ((n : Int) == 0) = false := by simp; omega
  have hi1 : ¬ n = 0 := by omega
  go_enter Try.func9, Try.ntmps9
  go_wp2_with (first | (go_at_call 27; refine (bytes27_yes _ _ _ _ hn).mono ?_; rintro _ _ ⟨rfl, hw⟩; obtain rfl := hw.symm) | (go_at_call 11; refine (clone_some x _ c g _ hn hx).mono ?_; rintro _ w1 ⟨rfl, hc1, hbel, hsz⟩) | fail)
  have hS : Seg w1 (some ⟨w.heap.size, 0, none⟩) n g := .inr ⟨_, _, rfl, hc1⟩
  refine (zzscan_any _ _ _ g _ 0 rfl _ hm (by omega) hS).mono ?_
  rw [HSC.out]
  rintro _ _ ⟨rfl, hw⟩
  obtain rfl := hw.symm
  go_wp2_with fail
  refine (zzshort_neg' w.heap.size 0 n m g d _ HM.out hn h45 hdg hc1).mono ?_
  rw [HR.out, HOK.out]
  rintro _ _ ⟨rfl, hw⟩
  obtain rfl := hw.symm
  have hc0 : w1.cell? ⟨w.heap.size, 0, none⟩ = some (.int .u8 45) := by have := hc1 0 (by omega); rwa [Nat.zero_add, h45.out] at this
  have HS : Hid (∀ j, j < n → w1.cell? ⟨w.heap.size, 0 + j, none⟩ = some (.int .u8 (g j))) := hc1
  clear hc1 hw hx hS
  go_wp2_with fail
  go_loop [7, 8] (fun t i => ∃ k : Nat, k ≤ n ∧ i = .int .i64 k ∧ t = .bool (wh g k)) (fun _ i => n - (intOf i).toNat)
  case atStart => exact ⟨0, by omega, rfl, rfl⟩
  case round =>
    obtain ⟨k, hk, rfl, rfl⟩ := hrel
    by_cases hlt : k < n
    · have hcell := HS.out k hlt
      rw [Nat.zero_add] at hcell
      cases hdot : (g k == 46) with
      | true =>
        have HW : Hid (wh g (k + 1) = false) := by show _ = _; rw [wh, hdot]; simp
        go_wp2_with fail
        go_round
        case rel => exact ⟨k + 1, by omega, by go_num, by rw [HW.out]⟩
        case measure => simp [intOf]; omega
      | false =>
        cases hexp : isExp (g k) with
        | true =>
          have HW : Hid (wh g (k + 1) = false) := by show _ = _; rw [wh, hexp]; simp
          have HE : Hid (isExp (g k) = true) := hexp
          clear hexp
          go_wp2_with (go_at_call 28; refine (isExp_any _ _).mono ?_; rw [HE.out]; rintro _ _ ⟨rfl, hw⟩; obtain rfl := hw.symm)
          go_round
          case rel => exact ⟨k + 1, by omega, by go_num, by rw [HW.out]⟩
          case measure => simp [intOf]; omega
        | false =>
          have HW : Hid (wh g (k + 1) = wh g k) := by show _ = _; rw [wh, hdot, hexp]; simp
          have HE : Hid (isExp (g k) = false) := hexp
          clear hexp
          go_wp2_with (go_at_call 28; refine (isExp_any _ _).mono ?_; rw [HE.out]; rintro _ _ ⟨rfl, hw⟩; obtain rfl := hw.symm)
          go_round
          case rel => exact ⟨k + 1, by omega, by go_num, by rw [HW.out]⟩
          case measure => simp [intOf]; omega
    · have hkn : k = n := by omega
      subst hkn
      cases hwh : wh g k with
      | false =>
        clear hwh
        go_wp2_with fail
        go_ret
        exact ⟨rfl, hbel⟩
      | true =>
        have h18 : 18 < m := by rcases HWH.out with h | h; rw [hwh] at h; simp at h; exact h
        have h18i : ¬ (k : Int) - 1 ≤ 18 := by omega
        have h18d : decide ((k : Int) - 1 ≤ 18) = false := decide_eq_false h18i
        clear hwh h18i
        go_wp2_with fail
        go_ret
        exact ⟨rfl, hbel⟩

set_option maxRecDepth 20000 in
set_option maxHeartbeats 2000000 in
theorem rt_pos_yes (x : Addr) (n c : Nat) (g : Nat → Int) (w : World) (h1 : 0 < n) (hn : n ≤ 1048576) (h45 : g 0 ≠ 45) (hx : ∀ j, j < n → w.cell? (x.add j) = some (.int .u8 (g j))) (HSC : Hid (scan g n 0 = (n, true))) (hOK : sOK g n = true) (HWH : Hid (wh g n = true)) (h18 : n ≤ 18) (HALL : Hid (allDig g n = true)) (HLZ : Hid (n = 1 ∧ g 0 = 48 ∨ 49 ≤ g 0)) :
    Calls Try.prog 9 #[.slice (some x) n c] w fun e w' => e = .returned (.bool true) ∧ Below w.heap.size w w' := by
  have hm : n ≤ maxLen := by unfold maxLen; omega
  have HR : Hid (sRes false g n = val g n) := by show _ = _; rw [sRes, hOK]; rfl
  have HOK : Hid (sOK g n = true) := hOK
  clear hOK
  obtain ⟨v, hv⟩ : ∃ v, v = val g n := ⟨_, rfl⟩
  rw [← hv] at HR
  have HV : Hid (v = val g n) := hv
  clear hv
  have hd : (g 0 == 45) = false := by simpa using h45
  have H45 : Hid (g 0 ≠ 45) := h45
  clear h45
  have hi : (0 : Int) < (n : Int) := by omega
  have hi0 : ((n : Int) == 0) = false := by simp; omega
  have hi1 : ¬ n = 0 := by omega
  go_enter Try.func9, Try.ntmps9
  go_wp2_with (first | (go_at_call 27; refine (bytes27_yes _ _ _ _ hn).mono ?_; rintro _ _ ⟨rfl, hw⟩; obtain rfl := hw.symm) | (go_at_call 11; refine (clone_some x _ c g _ hn hx).mono ?_; rintro _ w1 ⟨rfl, hc1, hbel, hsz⟩) | fail)
  have hS : Seg w1 (some ⟨w.heap.size, 0, none⟩) n g := .inr ⟨_, _, rfl, hc1⟩
  refine (zzscan_any _ _ _ g _ 0 rfl _ hm (by omega) hS).mono ?_
  rw [HSC.out]
  rintro _ _ ⟨rfl, hw⟩
  obtain rfl := hw.symm
  go_wp2_with fail
  refine (zzshort_pos w.heap.size 0 n n g _ h1 hn H45.out hc1).mono ?_
  rw [HR.out, HOK.out]
  rintro _ _ ⟨rfl, hw⟩
  obtain rfl := hw.symm
  have hc0 : w1.cell? ⟨w.heap.size, 0, none⟩ = some (.int .u8 (g 0)) := by have := hc1 0 (by omega); rwa [Nat.zero_add] at this
  have HS : Hid (∀ j, j < n → w1.cell? ⟨w.heap.size, 0 + j, none⟩ = some (.int .u8 (g j))) := hc1
  clear hc1 hw hx hS
  go_wp2_with fail
  go_loop [7, 8] (fun t i => ∃ k : Nat, k ≤ n ∧ i = .int .i64 k ∧ t = .bool (wh g k)) (fun _ i => n - (intOf i).toNat)
  case atStart => exact ⟨0, by omega, rfl, rfl⟩
  case round =>
    obtain ⟨k, hk, rfl, rfl⟩ := hrel
    by_cases hlt : k < n
    · have hcell := HS.out k hlt
      rw [Nat.zero_add] at hcell
      cases hdot : (g k == 46) with
      | true =>
        have HW : Hid (wh g (k + 1) = false) := by show _ = _; rw [wh, hdot]; simp
        go_wp2_with fail
        go_round
        case rel => exact ⟨k + 1, by omega, by go_num, by rw [HW.out]⟩
        case measure => simp [intOf]; omega
      | false =>
        cases hexp : isExp (g k) with
        | true =>
          have HW : Hid (wh g (k + 1) = false) := by show _ = _; rw [wh, hexp]; simp
          have HE : Hid (isExp (g k) = true) := hexp
          clear hexp
          go_wp2_with (go_at_call 28; refine (isExp_any _ _).mono ?_; rw [HE.out]; rintro _ _ ⟨rfl, hw⟩; obtain rfl := hw.symm)
          go_round
          case rel => exact ⟨k + 1, by omega, by go_num, by rw [HW.out]⟩
          case measure => simp [intOf]; omega
        | false =>
          have HW : Hid (wh g (k + 1) = wh g k) := by show _ = _; rw [wh, hdot, hexp]; simp
          have HE : Hid (isExp (g k) = false) := hexp
          clear hexp
          go_wp2_with (go_at_call 28; refine (isExp_any _ _).mono ?_; rw [HE.out]; rintro _ _ ⟨rfl, hw⟩; obtain rfl := hw.symm)
          go_round
          case rel => exact ⟨k + 1, by omega, by go_num, by rw [HW.out]⟩
          case measure => simp [intOf]; omega
    · have hkn : k = n := by omega
      subst hkn
      rw [HWH.out]
      have h18i : (k : Int) ≤ 18 := by omega
      obtain ⟨q, hq⟩ : ∃ q, k = q + 1 := ⟨k - 1, by omega⟩
      have HQ : Hid (k = q + 1) := hq
      have hq17 : q ≤ 17 := by omega
      have HVR : Hid (v = val g (q + 1)) := by show _ = _; rw [HV.out, hq]
      have HRD : Hid (allDig g (q + 1) = true) := by show _ = _; rw [← hq]; exact HALL.out
      have HNZ : Hid (q = 0 ∨ 48 < g 0) := by rcases HLZ.out with h | h; exact .inl (by omega); exact .inr (by omega)
      clear hq
      cases h2 : ((k : Int) == 2)
      all_goals
        go_wp2_with fail
        refine (dec_pos' v g q _ HVR.out hq17 HRD.out HNZ.out).mono ?_
        rintro _ w2 ⟨bb, rfl, hD, hbel2, hbb⟩
        have HDD : Hid (∀ j, j < q + 1 → w2.cell? ⟨bb, 0 + j, none⟩ = some (.int .u8 (g j))) := hD
        clear hD
        go_wp2_with fail
        refine (same_yes' _ _ _ _ _ _ _ _ g _ HQ.out (by omega) HDD.out (fun j hj => cell_later hbel2 (HS.out j (by have := HQ.out; omega)))).mono ?_
        rintro _ _ ⟨rfl, mm, hw2⟩
        obtain rfl := hw2.symm
        go_wp2
        go_ret
        exact ⟨rfl, below_drewN (hbel.trans (hbel2.mono hbel.size)) _⟩

set_option maxRecDepth 20000 in
set_option maxHeartbeats 2000000 in
theorem rt_neg_yes (x : Addr) (n m c : Nat) (g d : Nat → Int) (w : World) (hn : n ≤ 1048576) (HM : Hid (m + 1 = n)) (h45 : Hid (g 0 = 45)) (hdg : Hid (∀ j, d j = g (1 + j))) (hx : ∀ j, j < n → w.cell? (x.add j) = some (.int .u8 (g j))) (HSC : Hid (scan g n 0 = (n, true))) (hOK : sOK d m = true) (HWH : Hid (wh g n = true)) (h18 : m ≤ 18) (HALL : Hid (allDig d m = true)) (HLZ : Hid (m = 1 ∧ d 0 = 48 ∨ 49 ≤ d 0)) (hm0 : 0 < m) :
    Calls Try.prog 9 #[.slice (some x) n c] w fun e w' => e = .returned (.bool true) ∧ Below w.heap.size w w' := by
  have hm : n ≤ maxLen := by unfold maxLen; omega
  have HR : Hid (sRes true d m = -val d m) := by show _ = _; rw [sRes, hOK]; rfl
  have HOK : Hid (sOK d m = true) := hOK
  clear hOK
  obtain ⟨v, hv⟩ : ∃ v, v = -val d m := ⟨_, rfl⟩
  rw [← hv] at HR
  have HV : Hid (v = -val d m) := hv
  clear hv
  have hm1 : m < n := by have := HM.out; omega
  have hm2 : n ≤ m + 1 := by have := HM.out; omega
  have hi : (0 : Int) < (n : Int) := by omega
  have hi0 : ((n : Int) == 0) = false := by simp; omega
  have hi1 : ¬ n = 0 := by omega
  go_enter Try.func9, Try.ntmps9
  go_wp2_with (first | (go_at_call 27; refine (bytes27_yes _ _ _ _ hn).mono ?_; rintro _ _ ⟨rfl, hw⟩; obtain rfl := hw.symm) | (go_at_call 11; refine (clone_some x _ c g _ hn hx).mono ?_; rintro _ w1 ⟨rfl, hc1, hbel, hsz⟩) | fail)
  have hS : Seg w1 (some ⟨w.heap.size, 0, none⟩) n g := .inr ⟨_, _, rfl, hc1⟩
  refine (zzscan_any _ _ _ g _ 0 rfl _ hm (by omega) hS).mono ?_
  rw [HSC.out]
  rintro _ _ ⟨rfl, hw⟩
  obtain rfl := hw.symm
  go_wp2_with fail
  refine (zzshort_neg' w.heap.size 0 n m g d _ HM.out hn h45 hdg hc1).mono ?_
  rw [HR.out, HOK.out]
  rintro _ _ ⟨rfl, hw⟩
  obtain rfl := hw.symm
  have hc0 : w1.cell? ⟨w.heap.size, 0, none⟩ = some (.int .u8 45) := by have := hc1 0 (by omega); rwa [Nat.zero_add, h45.out] at this
  have HS : Hid (∀ j, j < n → w1.cell? ⟨w.heap.size, 0 + j, none⟩ = some (.int .u8 (g j))) := hc1
  clear hc1 hw hx hS
  go_wp2_with fail
  go_loop [7, 8] (fun t i => ∃ k : Nat, k ≤ n ∧ i = .int .i64 k ∧ t = .bool (wh g k)) (fun _ i => n - (intOf i).toNat)
  case atStart => exact ⟨0, by omega, rfl, rfl⟩
  case round =>
    obtain ⟨k, hk, rfl, rfl⟩ := hrel
    by_cases hlt : k < n
    · have hcell := HS.out k hlt
      rw [Nat.zero_add] at hcell
      cases hdot : (g k == 46) with
      | true =>
        have HW : Hid (wh g (k + 1) = false) := by show _ = _; rw [wh, hdot]; simp
        go_wp2_with fail
        go_round
        case rel => exact ⟨k + 1, by omega, by go_num, by rw [HW.out]⟩
        case measure => simp [intOf]; omega
      | false =>
        cases hexp : isExp (g k) with
        | true =>
          have HW : Hid (wh g (k + 1) = false) := by show _ = _; rw [wh, hexp]; simp
          have HE : Hid (isExp (g k) = true) := hexp
          clear hexp
          go_wp2_with (go_at_call 28; refine (isExp_any _ _).mono ?_; rw [HE.out]; rintro _ _ ⟨rfl, hw⟩; obtain rfl := hw.symm)
          go_round
          case rel => exact ⟨k + 1, by omega, by go_num, by rw [HW.out]⟩
          case measure => simp [intOf]; omega
        | false =>
          have HW : Hid (wh g (k + 1) = wh g k) := by show _ = _; rw [wh, hdot, hexp]; simp
          have HE : Hid (isExp (g k) = false) := hexp
          clear hexp
          go_wp2_with (go_at_call 28; refine (isExp_any _ _).mono ?_; rw [HE.out]; rintro _ _ ⟨rfl, hw⟩; obtain rfl := hw.symm)
          go_round
          case rel => exact ⟨k + 1, by omega, by go_num, by rw [HW.out]⟩
          case measure => simp [intOf]; omega
    · have hkn : k = n := by omega
      subst hkn
      rw [HWH.out]
      have h18i : (k : Int) - 1 ≤ 18 := by omega
      have h1n : 1 < k := by omega
      have h1i : (1 : Int) < (k : Int) := by omega
      have hcl1 : w1.cell? ⟨w.heap.size, 1, none⟩ = some (.int .u8 (g 1)) := by have := HS.out 1 h1n; rwa [Nat.zero_add] at this
      cases h2 : ((k : Int) == 2) with
      | false =>
        have HNZ : Hid (48 < d 0) := by rcases HLZ.out with h | h; simp at h2; omega; show _ < _; omega
        obtain ⟨q, hq⟩ : ∃ q, m = q + 1 := ⟨m - 1, by omega⟩
        have HQ : Hid (k = q + 2) := by show _ = _; have := HM.out; omega
        have hq17 : q ≤ 17 := by omega
        have HVR : Hid (v = -val d (q + 1)) := by show _ = _; rw [HV.out, hq]
        have HRD : Hid (allDig d (q + 1) = true) := by show _ = _; rw [← hq]; exact HALL.out
        have HSN : Hid (∀ j, j < q + 2 → w1.cell? ⟨w.heap.size, 0 + j, none⟩ = some (.int .u8 (negD d j))) := fun j hj => by
          rw [HS.out j (by have := HQ.out; omega), negD]
          by_cases e : j = 0
          · rw [if_pos e, e, h45.out]
          · rw [if_neg e, hdg.out, show 1 + (j - 1) = j by omega]
        clear hq
        go_wp2_with fail
        refine (dec_neg' v d q _ HVR.out hq17 HRD.out HNZ.out).mono ?_
        rintro _ w2 ⟨bb, rfl, hD, hbel2, hbb⟩
        have HDD : Hid (∀ j, j < q + 2 → w2.cell? ⟨bb, 0 + j, none⟩ = some (.int .u8 (negD d j))) := hD
        clear hD
        go_wp2_with fail
        refine (same_yes' _ _ _ _ _ _ _ _ (negD d) _ HQ.out (by omega) HDD.out (fun j hj => cell_later hbel2 (HSN.out j hj))).mono ?_
        rintro _ _ ⟨rfl, mm, hw2⟩
        obtain rfl := hw2.symm
        go_wp2
        go_ret
        exact ⟨rfl, below_drewN (hbel.trans (hbel2.mono hbel.size)) _⟩
      | true =>
        cases h48 : (g 1 == 48) with
        | false =>
          have HNZ : Hid (48 < d 0) := by
            rcases HLZ.out with h | h
            · have e := hdg.out 0; rw [h.2] at e; rw [show 1 + 0 = 1 from rfl] at e; rw [← e] at h48; simp at h48
            · show _ < _; omega
          obtain ⟨q, hq⟩ : ∃ q, m = q + 1 := ⟨m - 1, by omega⟩
          have HQ : Hid (k = q + 2) := by show _ = _; have := HM.out; omega
          have hq17 : q ≤ 17 := by omega
          have HVR : Hid (v = -val d (q + 1)) := by show _ = _; rw [HV.out, hq]
          have HRD : Hid (allDig d (q + 1) = true) := by show _ = _; rw [← hq]; exact HALL.out
          have HSN : Hid (∀ j, j < q + 2 → w1.cell? ⟨w.heap.size, 0 + j, none⟩ = some (.int .u8 (negD d j))) := fun j hj => by
            rw [HS.out j (by have := HQ.out; omega), negD]
            by_cases e : j = 0
            · rw [if_pos e, e, h45.out]
            · rw [if_neg e, hdg.out, show 1 + (j - 1) = j by omega]
          clear hq
          go_wp2_with fail
          refine (dec_neg' v d q _ HVR.out hq17 HRD.out HNZ.out).mono ?_
          rintro _ w2 ⟨bb, rfl, hD, hbel2, hbb⟩
          have HDD : Hid (∀ j, j < q + 2 → w2.cell? ⟨bb, 0 + j, none⟩ = some (.int .u8 (negD d j))) := hD
          clear hD
          go_wp2_with fail
          refine (same_yes' _ _ _ _ _ _ _ _ (negD d) _ HQ.out (by omega) HDD.out (fun j hj => cell_later hbel2 (HSN.out j hj))).mono ?_
          rintro _ _ ⟨rfl, mm, hw2⟩
          obtain rfl := hw2.symm
          go_wp2
          go_ret
          exact ⟨rfl, below_drewN (hbel.trans (hbel2.mono hbel.size)) _⟩
        | true =>
          have HV0 : (v == 0) = true := by
            have e := hdg.out 0
            rw [show 1 + 0 = 1 from rfl] at e
            have e2 : g 1 = 48 := by simpa using h48
            have hm1' : m = 1 := by simp at h2; omega
            rw [HV.out, hm1', val, val, e, e2]; rfl
          go_wp2_with fail
          go_ret
          exact ⟨rfl, hbel⟩

end Go.Proofs.Qxb6602279a
