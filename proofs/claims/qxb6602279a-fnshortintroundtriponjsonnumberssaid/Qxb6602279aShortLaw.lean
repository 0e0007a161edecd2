import Derived.Test.Qxb6602279aShortWalk
import Derived.Test.Qxb6602279aBytes
import Derived.WalkSmall
namespace Go.Proofs.Qxb6602279a
open Go.RowKit Plain

theorem dec_pos' (x : Int) (r : Nat → Int) (q : Nat) (w : World) (hx : x = val r (q + 1)) (hq : q ≤ 17) (hd : allDig r (q + 1) = true) (hnz : q = 0 ∨ 48 < r 0) :
    Calls Try.prog 26 #[.int .i64 x] w fun e w' => ∃ b : Nat, e = .returned (.slice (some ⟨b, 0, none⟩) (q + 1) (q + 1)) ∧
      (∀ j, j < q + 1 → w'.cell? ⟨b, 0 + j, none⟩ = some (.int .u8 (r j))) ∧ Below w.heap.size w w' ∧ b < w'.heap.size := by
  subst hx; exact dec_pos r q w hq hd hnz
theorem dec_neg' (x : Int) (r : Nat → Int) (q : Nat) (w : World) (hx : x = -val r (q + 1)) (hq : q ≤ 17) (hd : allDig r (q + 1) = true) (hnz : 48 < r 0) :
    Calls Try.prog 26 #[.int .i64 x] w fun e w' => ∃ b : Nat, e = .returned (.slice (some ⟨b, 0, none⟩) (q + 2) (q + 2)) ∧
      (∀ j, j < q + 2 → w'.cell? ⟨b, 0 + j, none⟩ = some (.int .u8 (negD r j))) ∧ Below w.heap.size w w' ∧ b < w'.heap.size := by
  subst hx; exact dec_neg r q w hq hd hnz
theorem same_yes' (b off c b' off' c' n n' : Nat) (g : Nat → Int) (w : World) (hnn : n' = n) (hn : n ≤ 1048576) (h : ∀ j, j < n → w.cell? ⟨b, off + j, none⟩ = some (.int .u8 (g j))) (h' : ∀ j, j < n → w.cell? ⟨b', off' + j, none⟩ = some (.int .u8 (g j))) :
    Calls Try.prog 25 #[.slice (some ⟨b, off, none⟩) n c, .slice (some ⟨b', off', none⟩) n' c'] w fun e w' => e = .returned (.bool true) ∧ ∃ m, w' = w.drewN m := by
  subst hnn; exact same_yes b off c b' off' c' n' g w hn h h'

theorem one_new (w : World) (j : Nat) (hj : j < 1) : (w.alloc (.cells #[Value.int .u8 48] 5)).cell? ⟨w.heap.size, 0 + j, none⟩ = some (.int .u8 48) := by
  obtain rfl : j = 0 := by omega
  exact (World.rowIs_alloc w #[Value.int .u8 48] 5 (fun _ => .int .u8 48) (fun i hi => by
    obtain rfl : i = 0 := by simpa using hi
    rfl)).cell (i := 0) (by decide)

theorem slice_eq {a : Option Addr} {n c n' c' : Nat} (h : n = n') (h' : c = c') : Value.slice a n c = .slice a n' c' := by rw [h, h']
theorem zzshort_neg' (b off n m : Nat) (g d : Nat → Int) (w : World) (hm : m + 1 = n) (hn : n ≤ 1048576) (h45 : Hid (g 0 = 45)) (hdg : Hid (∀ j, d j = g (1 + j))) (hc : ∀ j, j < n → w.cell? ⟨b, off + j, none⟩ = some (.int .u8 (g j))) :
    Calls Try.prog 23 #[.slice (some ⟨b, off, none⟩) n n] w fun e w' => e = .returned (.tuple #[.int .i64 (sRes true d m), .bool (sOK d m)]) ∧ w' = w := by
  subst hm; exact zzshort_neg b off m g d w hn h45 hdg hc

/-- 'want := make([]byte, q+2); want[0] = '-'; copy(want[1:], rest)': what the copy does -/
theorem copy_neg (W : World) (b o q : Nat) (r : Nat → Int) (M : Array Value) (hMs : M.size = q + 2) (hx : ∀ j, j < q + 1 → W.cell? ⟨b, o + j, none⟩ = some (.int .u8 (r j))) :
    ∃ Y : Array Value, (Builtin.copy_ #[22, 22] 3 #[.slice (some ⟨W.heap.size, 1, none⟩) (q + 1) (q + 1), .slice (some ⟨b, o, none⟩) (q + 1) (q + 1)]).run Try.prog (W.alloc (.cells (M.setIfInBounds 0 (.int .u8 45)) 5)) = .ok (goInt (q + 1 : Nat)) ((W.alloc (.cells (M.setIfInBounds 0 (.int .u8 45)) 5)).setRow W.heap.size Y) ∧
      (∀ j, j < q + 2 → ((W.alloc (.cells (M.setIfInBounds 0 (.int .u8 45)) 5)).setRow W.heap.size Y).cell? ⟨W.heap.size, 0 + j, none⟩ = some (.int .u8 (negD r j))) ∧
      Below W.heap.size W ((W.alloc (.cells (M.setIfInBounds 0 (.int .u8 45)) 5)).setRow W.heap.size Y) := by
  obtain ⟨M', hM'⟩ : ∃ M', M' = M.setIfInBounds 0 (.int .u8 45) := ⟨_, rfl⟩
  have hs' : M'.size = q + 2 := by rw [hM']; simpa using hMs
  have hl : ∃ t, M'.toList = .int .u8 45 :: t := by
    rw [hM', Array.toList_setIfInBounds]
    match h : M.toList with
    | [] => have := congrArg List.length h; simp at this; rw [this] at hMs; simp at hMs
    | a :: t => exact ⟨t, rfl⟩
  rw [← hM']
  have hb1 : Below W.heap.size W (W.alloc (.cells M' 5)) := (Below.refl _ W).alloc (Nat.le_refl _) _
  have hcp := run_copy_row (P := Try.prog) (W.alloc (.cells M' 5)) 22 22 3 5 W.heap.size 1 (q + 1) (q + 1) ⟨b, o, none⟩ (q + 1) (q + 1) M' 5 (vals r (q + 1)) Try.underlying22 info5s (heap_alloc_new W _)
    (by rw [vals_length]; simp)
    (fun j v hv => by obtain ⟨hj, rfl⟩ := vals_some hv; rw [add_at]; exact cell_later hb1 (hx j hj))
    (by rw [vals_length]; omega) (vals_one r (q + 1))
  rw [vals_length] at hcp
  refine ⟨_, hcp, ?_, ?_⟩
  · intro j hj
    obtain ⟨t, ht⟩ := hl
    rw [cell_setRow_same _ _ _ M' _ 5 (0, 0) (heap_alloc_new W _), ← Array.getElem?_toList, List.toList_toArray, Nat.zero_add, ht]
    show ([Value.int .u8 45] ++ vals r (q + 1) ++ _)[j]? = _
    cases j with
    | zero => rfl
    | succ j =>
      rw [List.append_assoc]
      show (vals r (q + 1) ++ _)[j]? = _
      rw [List.getElem?_append_left (by rw [vals_length]; omega), vals_get r (q + 1) j (by omega)]
      rfl
  · exact hb1.trans ⟨rfl, rfl, rfl, by simp [World.setRow], fun k hk => setRow_other _ _ _ _ (by omega)⟩

theorem slaw_long (a : Option Addr) (n c : Nat) (w : World) (h : 1048576 < n) :
    Calls Try.prog 8 #[.slice a n c] w fun e w' => e = .returned (.bool true) ∧ w' = w := by
  go_enter Try.func8, Try.ntmps8
  go_wp2_with (go_at_call 22; refine (bytes22_no _ _ _ _ h).mono ?_; rintro e w' ⟨rfl, rfl⟩)
  go_ret
  exact ⟨rfl, rfl⟩

theorem slaw_empty (a : Option Addr) (c : Nat) (w : World) :
    Calls Try.prog 8 #[.slice a 0 c] w fun e w' => e = .returned (.bool true) ∧ w' = w := by
  go_enter Try.func8, Try.ntmps8
  go_wp2_with (go_at_call 22; refine (bytes22_yes _ _ _ _ (by omega)).mono ?_; rintro e w' ⟨rfl, rfl⟩)
  go_ret
  exact ⟨rfl, rfl⟩

set_option maxRecDepth 20000 in
set_option maxHeartbeats 2000000 in
theorem slaw_pos_no (x : Addr) (n c : Nat) (g : Nat → Int) (w : World) (h1 : 0 < n) (hn : n ≤ 1048576) (h45 : g 0 ≠ 45) (hx : ∀ j, j < n → w.cell? (x.add j) = some (.int .u8 (g j))) (hOK : sOK g n = false) :
    Calls Try.prog 8 #[.slice (some x) n c] w fun e w' => e = .returned (.bool true) ∧ Below w.heap.size w w' := by
  have HR : Hid (sRes false g n = 0) := by show _ = _; rw [sRes, hOK]; rfl
  have HOK : Hid (sOK g n = false) := hOK
  clear hOK
  have hd : (g 0 == 45) = false := by simpa using h45
  have H45 : Hid (g 0 ≠ 45) := h45
  have hi : (0 : Int) < (n : Int) := by omega
  have hi0 : ((n : Int) == 0) = false := by simp; omega
  have hi1 : ¬ n = 0 := by omega
  clear h45
  go_enter Try.func8, Try.ntmps8
  go_wp2_with (first | (go_at_call 22; refine (bytes22_yes _ _ _ _ hn).mono ?_; rintro _ _ ⟨rfl, hw⟩; obtain rfl := hw.symm) | (go_at_call 11; refine (clone_some x _ c g _ hn hx).mono ?_; rintro _ w1 ⟨rfl, hc1, hbel, hsz⟩) | fail)
  refine (zzshort_pos w.heap.size 0 n n g _ h1 hn H45.out hc1).mono ?_
  rw [HR.out, HOK.out]
  rintro _ _ ⟨rfl, hw⟩
  obtain rfl := hw.symm
  have hc0 : w1.cell? ⟨w.heap.size, 0, none⟩ = some (.int .u8 (g 0)) := by have := hc1 0 (by omega); rwa [Nat.zero_add] at this
  have hS0 : Hid (∀ j, j < n → w1.cell? ⟨w.heap.size, 0 + j, none⟩ = some (.int .u8 (g j))) := hc1
  clear hc1 hw hx
  go_upto_if 33 with fail
  go_cut [6] from 34 to 35 (fun v wx => (∃ b' off' : Nat, v = .slice (some ⟨b', off', none⟩) n n ∧ Hid (∀ j, j < n → w1.cell? ⟨b', off' + j, none⟩ = some (.int .u8 (g j)))) ∧ w1 = wx)
  case first =>
    go_wp2
    go_meet
    exact ⟨⟨_, _, rfl, hS0.out⟩, rfl⟩
  case rest =>
    clear hS0
    obtain ⟨⟨b', off', rfl, HS⟩, rfl⟩ := hcut
    by_cases h18 : n ≤ 18
    · go_wp2
      go_loop [7, 8] (fun t i => ∃ k : Nat, k ≤ n ∧ i = .int .i64 k ∧ t = .bool (allDig g k)) (fun _ i => n - (intOf i).toNat)
      case atStart => exact ⟨0, by omega, rfl, by simp [allDig]; omega⟩
      case round =>
        obtain ⟨k, hk, rfl, rfl⟩ := hrel
        by_cases hlt : k < n
        · have hcell := HS.out k hlt
          cases ha : allDig g k with
          | false =>
            go_wp2
            go_ret
            exact ⟨rfl, hbel⟩
          | true =>
            by_cases hb : 48 ≤ g k ∧ g k ≤ 57
            · have HA : Hid (allDig g (k + 1) = true) := by show _ = _; rw [allDig, ha, isDig_iff.2 hb]; rfl
              obtain ⟨d0, d1⟩ := hb
              go_wp2_with (go_at_call 24; refine (isDig_yes _ _ d0 d1).mono ?_; rintro _ _ ⟨rfl, hw⟩; obtain rfl := hw.symm)
              go_round
              case rel => exact ⟨k + 1, by omega, by go_num, by rw [HA.out]⟩
              case measure => simp [intOf]; omega
            · have HA : Hid (allDig g (k + 1) = false) := allDig_no (Nat.lt_succ_self k) hb
              have HB : Hid (¬(48 ≤ g k ∧ g k ≤ 57)) := hb
              clear hb
              go_wp2_with (go_at_call 24; refine (isDig_no _ _ HB.out).mono ?_; rintro _ _ ⟨rfl, hw⟩; obtain rfl := hw.symm)
              go_round
              case rel => exact ⟨k + 1, by omega, by go_num, by rw [HA.out]⟩
              case measure => simp [intOf]; omega
        · have ha : allDig g k = false := by
            obtain rfl : k = n := by omega
            have := HOK.out
            unfold sOK at this
            simpa [h18] using this
          rw [ha]
          go_wp2
          go_ret
          exact ⟨rfl, hbel⟩
    · go_wp2
      go_loop [7, 8] (fun t i => i = .int .i64 0 ∧ t = .bool false) (fun _ _ => 0)
      case atStart => exact ⟨rfl, by simp; omega⟩
      case round =>
        obtain ⟨rfl, rfl⟩ := hrel
        go_wp2
        all_goals (go_ret; exact ⟨rfl, hbel⟩)

set_option maxRecDepth 20000 in
set_option maxHeartbeats 2000000 in
theorem slaw_neg_no (x : Addr) (n m c : Nat) (g d : Nat → Int) (w : World) (hn : n ≤ 1048576) (HM : Hid (m + 1 = n)) (h45 : Hid (g 0 = 45)) (hdg : Hid (∀ j, d j = g (1 + j))) (hx : ∀ j, j < n → w.cell? (x.add j) = some (.int .u8 (g j))) (hOK : sOK d m = false) :
    Calls Try.prog 8 #[.slice (some x) n c] w fun e w' => e = .returned (.bool true) ∧ Below w.heap.size w w' := by
  have HR : Hid (sRes true d m = 0) := by show _ = _; rw [sRes, hOK]; rfl
  have HOK : Hid (sOK d m = false) := hOK
  clear hOK
  have hm1 : m < n := by have := HM.out; omega
  have hm2 : n ≤ m + 1 := by have := HM.out; omega
  have hi : (0 : Int) < (n : Int) := by omega
  have hi0 : ((n : Int) == 0) = false := by simp; omega
  have hi1 : ¬ n = 0 := by omega
  go_enter Try.func8, Try.ntmps8
  go_wp2_with (first | (go_at_call 22; refine (bytes22_yes _ _ _ _ hn).mono ?_; rintro _ _ ⟨rfl, hw⟩; obtain rfl := hw.symm) | (go_at_call 11; refine (clone_some x _ c g _ hn hx).mono ?_; rintro _ w1 ⟨rfl, hc1, hbel, hsz⟩) | fail)
  refine (zzshort_neg' w.heap.size 0 n m g d _ HM.out hn h45 hdg hc1).mono ?_
  rw [HR.out, HOK.out]
  rintro _ _ ⟨rfl, hw⟩
  obtain rfl := hw.symm
  have hc0 : w1.cell? ⟨w.heap.size, 0, none⟩ = some (.int .u8 45) := by have := hc1 0 (by omega); rwa [Nat.zero_add, h45.out] at this
  have hS0 : Hid (∀ j, j < m → w1.cell? ⟨w.heap.size, 1 + j, none⟩ = some (.int .u8 (d j))) := fun j hj => by have := hc1 (1 + j) (by omega); rwa [Nat.zero_add, ← hdg.out] at this
  clear hc1 hw hx
  go_upto_if 33 with fail
  go_cut [6] from 34 to 35 (fun v wx => (∃ b' off' : Nat, v = .slice (some ⟨b', off', none⟩) m m ∧ Hid (∀ j, j < m → w1.cell? ⟨b', off' + j, none⟩ = some (.int .u8 (d j)))) ∧ w1 = wx)
  case first =>
    by_cases h0 : m = 0
    · obtain rfl : n = 1 := by omega
      subst h0
      go_wp2
      go_meet
      exact ⟨⟨_, _, rfl, fun j hj => by omega⟩, rfl⟩
    · have hn1 : ¬ n = 1 := by omega
      have hni : (1 : Int) ≤ (n : Int) := by omega
      go_wp2
      go_meet
      exact ⟨⟨_, _, slice_eq (by omega) (by omega), hS0.out⟩, rfl⟩
  case rest =>
    clear hS0
    obtain ⟨⟨b', off', rfl, HS⟩, rfl⟩ := hcut
    by_cases h18 : m ≤ 18
    · go_wp2
      go_loop [7, 8] (fun t i => ∃ k : Nat, k ≤ m ∧ i = .int .i64 k ∧ t = .bool (allDig d k)) (fun _ i => m - (intOf i).toNat)
      case atStart => exact ⟨0, by omega, rfl, by simp [allDig]; omega⟩
      case round =>
        obtain ⟨k, hk, rfl, rfl⟩ := hrel
        by_cases hlt : k < m
        · have hcell := HS.out k hlt
          cases ha : allDig d k with
          | false =>
            go_wp2
            go_ret
            exact ⟨rfl, hbel⟩
          | true =>
            by_cases hb : 48 ≤ d k ∧ d k ≤ 57
            · have HA : Hid (allDig d (k + 1) = true) := by show _ = _; rw [allDig, ha, isDig_iff.2 hb]; rfl
              obtain ⟨d0, d1⟩ := hb
              go_wp2_with (go_at_call 24; refine (isDig_yes _ _ d0 d1).mono ?_; rintro _ _ ⟨rfl, hw⟩; obtain rfl := hw.symm)
              go_round
              case rel => exact ⟨k + 1, by omega, by go_num, by rw [HA.out]⟩
              case measure => simp [intOf]; omega
            · have HA : Hid (allDig d (k + 1) = false) := allDig_no (Nat.lt_succ_self k) hb
              have HB : Hid (¬(48 ≤ d k ∧ d k ≤ 57)) := hb
              clear hb
              go_wp2_with (go_at_call 24; refine (isDig_no _ _ HB.out).mono ?_; rintro _ _ ⟨rfl, hw⟩; obtain rfl := hw.symm)
              go_round
              case rel => exact ⟨k + 1, by omega, by go_num, by rw [HA.out]⟩
              case measure => simp [intOf]; omega
        · have ha : allDig d k = false := by
            obtain rfl : k = m := by omega
            have := HOK.out
            unfold sOK at this
            simpa [h18] using this
          rw [ha]
          go_wp2
          go_ret
          exact ⟨rfl, hbel⟩
    · go_wp2
      go_loop [7, 8] (fun t i => i = .int .i64 0 ∧ t = .bool false) (fun _ _ => 0)
      case atStart => exact ⟨rfl, by simp; omega⟩
      case round =>
        obtain ⟨rfl, rfl⟩ := hrel
        go_wp2
        all_goals (go_ret; exact ⟨rfl, hbel⟩)

set_option maxRecDepth 20000 in
set_option maxHeartbeats 2000000 in
theorem slaw_pos_yes (x : Addr) (n c : Nat) (g : Nat → Int) (w : World) (h1 : 0 < n) (hn : n ≤ 1048576) (h45 : g 0 ≠ 45) (hx : ∀ j, j < n → w.cell? (x.add j) = some (.int .u8 (g j))) (hOK : sOK g n = true) :
    Calls Try.prog 8 #[.slice (some x) n c] w fun e w' => e = .returned (.bool true) ∧ Below w.heap.size w w' := by
  obtain ⟨h18, hall⟩ : n ≤ 18 ∧ allDig g n = true := by unfold sOK at hOK; simpa using hOK
  have HR : Hid (sRes false g n = val g n) := by show _ = _; rw [sRes, hOK]; rfl
  have HOK : Hid (sOK g n = true) := hOK
  have HALL : Hid (allDig g n = true) := hall
  clear hOK hall
  obtain ⟨v, hv⟩ : ∃ v, v = val g n := ⟨_, rfl⟩
  rw [← hv] at HR
  have HV : Hid (v = val g n) := hv
  clear hv
  have hd : (g 0 == 45) = false := by simpa using h45
  have H45 : Hid (g 0 ≠ 45) := h45
  have hi : (0 : Int) < (n : Int) := by omega
  have hi0 : ((n : Int) == 0) = false := by simp; omega
  have hi1 : ¬ n = 0 := by omega
  clear h45
  go_enter Try.func8, Try.ntmps8
  go_wp2_with (first | (go_at_call 22; refine (bytes22_yes _ _ _ _ hn).mono ?_; rintro _ _ ⟨rfl, hw⟩; obtain rfl := hw.symm) | (go_at_call 11; refine (clone_some x _ c g _ hn hx).mono ?_; rintro _ w1 ⟨rfl, hc1, hbel, hsz⟩) | fail)
  refine (zzshort_pos w.heap.size 0 n n g _ h1 hn H45.out hc1).mono ?_
  rw [HR.out, HOK.out]
  rintro _ _ ⟨rfl, hw⟩
  obtain rfl := hw.symm
  have hc0 : w1.cell? ⟨w.heap.size, 0, none⟩ = some (.int .u8 (g 0)) := by have := hc1 0 (by omega); rwa [Nat.zero_add] at this
  have hS0 : Hid (∀ j, j < n → w1.cell? ⟨w.heap.size, 0 + j, none⟩ = some (.int .u8 (g j))) := hc1
  clear hc1 hw hx
  go_upto_if 33 with fail
  go_cut [6] from 34 to 35 (fun v wx => (∃ b' off' : Nat, v = .slice (some ⟨b', off', none⟩) n n ∧ Hid (∀ j, j < n → w1.cell? ⟨b', off' + j, none⟩ = some (.int .u8 (g j)))) ∧ w1 = wx)
  case first =>
    go_wp2
    go_meet
    exact ⟨⟨_, _, rfl, hS0.out⟩, rfl⟩
  case rest =>
    clear hS0
    obtain ⟨⟨b', off', rfl, HS⟩, rfl⟩ := hcut
    go_wp2
    go_loop [7, 8] (fun t i => ∃ k : Nat, k ≤ n ∧ i = .int .i64 k ∧ t = .bool true) (fun _ i => n - (intOf i).toNat)
    case atStart => exact ⟨0, by omega, rfl, by simp; omega⟩
    case round =>
      obtain ⟨k, hk, rfl, rfl⟩ := hrel
      by_cases hlt : k < n
      · have hcell := HS.out k hlt
        obtain ⟨d0, d1⟩ := allDig_at HALL.out hlt
        go_wp2_with (go_at_call 24; refine (isDig_yes _ _ d0 d1).mono ?_; rintro _ _ ⟨rfl, hw⟩; obtain rfl := hw.symm)
        go_round
        case rel => exact ⟨k + 1, by omega, by go_num, rfl⟩
        case measure => simp [intOf]; omega
      · have hkm : k = n := by omega
        subst hkm
        go_wp2
        go_loop [9] (fun i => ∃ z : Nat, z ≤ k ∧ i = .int .i64 z ∧ Hid (∀ j, j < z → g j = 48)) (fun i => k - (intOf i).toNat)
        case atStart => exact ⟨0, by omega, rfl, fun j hj => by omega⟩
        case round =>
          obtain ⟨z, hz, rfl, HZ⟩ := hrel
          by_cases hzl : z < k
          · have hcell := HS.out z hzl
            obtain ⟨d0, d1⟩ := allDig_at HALL.out hzl
            by_cases h48 : g z = 48
            · have h48b : (g z == 48) = true := by simpa using h48
              have HZ2 : Hid (∀ j, j < z + 1 → g j = 48) := fun j hj => by
                by_cases e : j = z
                · rw [e]; exact h48
                · exact HZ.out j (by omega)
              clear h48
              go_wp2
              go_round
              case rel => exact ⟨z + 1, by omega, by go_num, HZ2.out⟩
              case measure => simp [intOf]; omega
            · have h48b : (g z == 48) = false := by simpa using h48
              obtain ⟨q, hq⟩ : ∃ q, k = z + (q + 1) := ⟨k - z - 1, by omega⟩
              have hr0 : Hid (48 < (fun j => g (z + j)) 0) := by show 48 < g (z + 0); rw [Nat.add_zero]; omega
              have HRD : Hid (allDig (fun j => g (z + j)) (q + 1) = true) := allDig_of fun j hj => allDig_at HALL.out (by omega)
              have HVR : Hid (v = val (fun j => g (z + j)) (q + 1)) := by show _ = _; rw [HV.out, hq, val_drop HZ.out]
              have HS3 : Hid (∀ j, j < q + 1 → w1.cell? ⟨b', off' + z + j, none⟩ = some (.int .u8 ((fun j => g (z + j)) j))) := fun j hj => by have := HS.out (z + j) (by omega); rw [Nat.add_assoc]; exact this
              clear h48
              have HQ : Hid (k = z + (q + 1)) := hq
              have hq17 : q ≤ 17 := by omega
              have hkz : k - z = q + 1 := by omega
              have hne : ¬ k = z := by omega
              have hqi : ((q : Int) + 1 == 0) = false := by simp; omega
              clear hq
              go_wp2_with fail
              refine (dec_pos' v (fun j => g (z + j)) q _ HVR.out hq17 HRD.out (.inr hr0.out)).mono ?_
              rintro _ w2 ⟨bb, rfl, hD, hbel2, hbb⟩
              have HDD : Hid (∀ j, j < q + 1 → w2.cell? ⟨bb, 0 + j, none⟩ = some (.int .u8 ((fun j => g (z + j)) j))) := hD
              clear hD
              go_wp2_with fail
              refine (same_yes' _ _ _ _ _ _ _ _ (fun j => g (z + j)) _ (by omega) (by omega) HDD.out (fun j hj => cell_later hbel2 (HS3.out j hj))).mono ?_
              rintro _ _ ⟨rfl, mm, hw2⟩
              obtain rfl := hw2.symm
              go_wp2
              go_ret
              exact ⟨rfl, below_drewN (hbel.trans (hbel2.mono hbel.size)) _⟩
          · have hzk : z = k := by omega
            subst hzk
            have HVZ : Hid (v = val (fun _ => 48) (0 + 1)) := by show _ = _; rw [HV.out, val_zeros HZ.out]; rfl
            go_wp2_with fail
            refine (dec_pos' v (fun _ => 48) 0 _ HVZ.out (by omega) rfl (.inl rfl)).mono ?_
            rintro _ w2 ⟨bb, rfl, hD, hbel2, hbb⟩
            have HDD : Hid (∀ j, j < 0 + 1 → w2.cell? ⟨bb, 0 + j, none⟩ = some (.int .u8 ((fun _ => 48) j))) := hD
            clear hD
            go_wp2_with fail
            refine (same_yes' _ _ _ _ _ _ _ _ (fun _ => 48) _ rfl (by omega) HDD.out (fun j hj => cell_later hbel2 (one_new w1 j hj))).mono ?_
            rintro _ _ ⟨rfl, mm, hw2⟩
            obtain rfl := hw2.symm
            go_wp2
            go_ret
            exact ⟨rfl, below_drewN ((hbel.alloc hbel.size _).trans (hbel2.mono (by have := hbel.size; simp; omega))) _⟩

set_option maxRecDepth 20000 in
set_option maxHeartbeats 2000000 in
theorem slaw_neg_yes (x : Addr) (n m c : Nat) (g d : Nat → Int) (w : World) (hn : n ≤ 1048576) (HM : Hid (m + 1 = n)) (h45 : Hid (g 0 = 45)) (hdg : Hid (∀ j, d j = g (1 + j))) (hx : ∀ j, j < n → w.cell? (x.add j) = some (.int .u8 (g j))) (hOK : sOK d m = true) :
    Calls Try.prog 8 #[.slice (some x) n c] w fun e w' => e = .returned (.bool true) ∧ Below w.heap.size w w' := by
  obtain ⟨h18, hall⟩ : m ≤ 18 ∧ allDig d m = true := by unfold sOK at hOK; simpa using hOK
  have HR : Hid (sRes true d m = -val d m) := by show _ = _; rw [sRes, hOK]; rfl
  have HOK : Hid (sOK d m = true) := hOK
  have HALL : Hid (allDig d m = true) := hall
  clear hOK hall
  obtain ⟨v, hv⟩ : ∃ v, v = -val d m := ⟨_, rfl⟩
  rw [← hv] at HR
  have HV : Hid (v = -val d m) := hv
  clear hv
  have hm1 : m < n := by have := HM.out; omega
  have hm2 : n ≤ m + 1 := by have := HM.out; omega
  have hi : (0 : Int) < (n : Int) := by omega
  have hi0 : ((n : Int) == 0) = false := by simp; omega
  have hi1 : ¬ n = 0 := by omega
  go_enter Try.func8, Try.ntmps8
  go_wp2_with (first | (go_at_call 22; refine (bytes22_yes _ _ _ _ hn).mono ?_; rintro _ _ ⟨rfl, hw⟩; obtain rfl := hw.symm) | (go_at_call 11; refine (clone_some x _ c g _ hn hx).mono ?_; rintro _ w1 ⟨rfl, hc1, hbel, hsz⟩) | fail)
  refine (zzshort_neg' w.heap.size 0 n m g d _ HM.out hn h45 hdg hc1).mono ?_
  rw [HR.out, HOK.out]
  rintro _ _ ⟨rfl, hw⟩
  obtain rfl := hw.symm
  have hc0 : w1.cell? ⟨w.heap.size, 0, none⟩ = some (.int .u8 45) := by have := hc1 0 (by omega); rwa [Nat.zero_add, h45.out] at this
  have hS0 : Hid (∀ j, j < m → w1.cell? ⟨w.heap.size, 1 + j, none⟩ = some (.int .u8 (d j))) := fun j hj => by have := hc1 (1 + j) (by omega); rwa [Nat.zero_add, ← hdg.out] at this
  clear hc1 hw hx
  go_upto_if 33 with fail
  go_cut [6] from 34 to 35 (fun v wx => (∃ b' off' : Nat, v = .slice (some ⟨b', off', none⟩) m m ∧ Hid (∀ j, j < m → w1.cell? ⟨b', off' + j, none⟩ = some (.int .u8 (d j)))) ∧ w1 = wx)
  case first =>
    by_cases h0 : m = 0
    · obtain rfl : n = 1 := by omega
      subst h0
      go_wp2
      go_meet
      exact ⟨⟨_, _, rfl, fun j hj => by omega⟩, rfl⟩
    · have hn1 : ¬ n = 1 := by omega
      have hni : (1 : Int) ≤ (n : Int) := by omega
      go_wp2
      go_meet
      exact ⟨⟨_, _, slice_eq (by omega) (by omega), hS0.out⟩, rfl⟩
  case rest =>
    clear hS0
    obtain ⟨⟨b', off', rfl, HS⟩, rfl⟩ := hcut
    go_wp2
    go_loop [7, 8] (fun t i => ∃ k : Nat, k ≤ m ∧ i = .int .i64 k ∧ t = .bool true) (fun _ i => m - (intOf i).toNat)
    case atStart => exact ⟨0, by omega, rfl, by simp; omega⟩
    case round =>
      obtain ⟨k, hk, rfl, rfl⟩ := hrel
      by_cases hlt : k < m
      · have hcell := HS.out k hlt
        obtain ⟨d0, d1⟩ := allDig_at HALL.out hlt
        go_wp2_with (go_at_call 24; refine (isDig_yes _ _ d0 d1).mono ?_; rintro _ _ ⟨rfl, hw⟩; obtain rfl := hw.symm)
        go_round
        case rel => exact ⟨k + 1, by omega, by go_num, rfl⟩
        case measure => simp [intOf]; omega
      · have hkm : k = m := by omega
        subst hkm
        go_wp2
        go_loop [9] (fun i => ∃ z : Nat, z ≤ k ∧ i = .int .i64 z ∧ Hid (∀ j, j < z → d j = 48)) (fun i => k - (intOf i).toNat)
        case atStart => exact ⟨0, by omega, rfl, fun j hj => by omega⟩
        case round =>
          obtain ⟨z, hz, rfl, HZ⟩ := hrel
          by_cases hzl : z < k
          · have hcell := HS.out z hzl
            obtain ⟨d0, d1⟩ := allDig_at HALL.out hzl
            by_cases h48 : d z = 48
            · have h48b : (d z == 48) = true := by simpa using h48
              have HZ2 : Hid (∀ j, j < z + 1 → d j = 48) := fun j hj => by
                by_cases e : j = z
                · rw [e]; exact h48
                · exact HZ.out j (by omega)
              clear h48
              go_wp2
              go_round
              case rel => exact ⟨z + 1, by omega, by go_num, HZ2.out⟩
              case measure => simp [intOf]; omega
            · have h48b : (d z == 48) = false := by simpa using h48
              obtain ⟨q, hq⟩ : ∃ q, k = z + (q + 1) := ⟨k - z - 1, by omega⟩
              have hr0 : Hid (48 < (fun j => d (z + j)) 0) := by show 48 < d (z + 0); rw [Nat.add_zero]; omega
              have HRD : Hid (allDig (fun j => d (z + j)) (q + 1) = true) := allDig_of fun j hj => allDig_at HALL.out (by omega)
              have HVR : Hid (v = -val (fun j => d (z + j)) (q + 1)) := by show _ = _; rw [HV.out, hq, val_drop HZ.out]
              have HS3 : Hid (∀ j, j < q + 1 → w1.cell? ⟨b', off' + z + j, none⟩ = some (.int .u8 ((fun j => d (z + j)) j))) := fun j hj => by have := HS.out (z + j) (by omega); rw [Nat.add_assoc]; exact this
              clear h48
              have HQ : Hid (k = z + (q + 1)) := hq
              have hq17 : q ≤ 17 := by omega
              have hkz : k - z = q + 1 := by omega
              have hne : ¬ k = z := by omega
              have hqi : ((q : Int) + 1 == 0) = false := by simp; omega
              clear hq
              have hmk := run_make_row' (P := Try.prog) 22 5 (.int .u8 0) 1 Try.underlying22 info5 rfl .i64 .i64 (q + 2) (by omega) (by omega)
              rw [show ((q + 2 : Nat) : Int) = (q : Int) + 1 + 1 by omega] at hmk
              obtain ⟨M, hM⟩ : ∃ M, M = madeCells #[Value.int .u8 0] (q + 2) := ⟨_, rfl⟩
              have hMs : M.size = q + 2 := by rw [hM, size_madeCells]
              rw [← hM] at hmk
              clear hM
              have hM0 : (w1.alloc (.cells M 5)).cell? ⟨w1.heap.size, 0, none⟩ = some (M[0]'(by omega)) := (World.rowIs_alloc w1 M 5 (fun i => M.getD i default) (fun i hi => by simp [hi])).cell (i := 0) (by omega) |>.trans (by simp [hMs])
              obtain ⟨v0, hv0⟩ : ∃ v0, (w1.alloc (.cells M 5)).cell? ⟨w1.heap.size, 0, none⟩ = some v0 := ⟨_, hM0⟩
              clear hM0
              have hMf : (w1.alloc (.cells M 5)).frozen? ⟨w1.heap.size, 0, none⟩ = false := (World.rowIs_alloc w1 M 5 (fun i => M.getD i default) (fun i hi => by simp [hi])).frozen 0
              obtain ⟨Y, hcp, hY, hbY⟩ := copy_neg w1 b' (off' + z) q (fun j => d (z + j)) M hMs HS3.out
              have HYC : Hid (∀ j, j < q + 2 → ((w1.alloc (.cells (M.setIfInBounds 0 (.int .u8 45)) 5)).setRow w1.heap.size Y).cell? ⟨w1.heap.size, 0 + j, none⟩ = some (.int .u8 (negD (fun j => d (z + j)) j))) := hY
              have HMs : Hid (M.size = q + 2) := hMs
              clear hY hMs
              go_wp2_with fail
              refine (dec_neg' v (fun j => d (z + j)) q _ HVR.out hq17 HRD.out hr0.out).mono ?_
              rintro _ w2 ⟨bb, rfl, hD, hbel2, hbb⟩
              have HDD : Hid (∀ j, j < q + 2 → w2.cell? ⟨bb, 0 + j, none⟩ = some (.int .u8 (negD (fun j => d (z + j)) j))) := hD
              clear hD
              go_wp2_with fail
              refine (same_yes' _ _ _ _ _ _ _ _ (negD (fun j => d (z + j))) _ rfl (by omega) HDD.out (fun j hj => cell_later hbel2 (HYC.out j hj))).mono ?_
              rintro _ _ ⟨rfl, mm, hw2⟩
              obtain rfl := hw2.symm
              go_wp2
              go_ret
              exact ⟨rfl, below_drewN ((hbel.trans (hbY.mono hbel.size)).trans (hbel2.mono (Nat.le_trans hbel.size hbY.size))) _⟩
          · have hzk : z = k := by omega
            subst hzk
            have HVZ : Hid (v = val (fun _ => 48) (0 + 1)) := by show _ = _; rw [HV.out, val_zeros HZ.out]; rfl
            go_wp2_with fail
            refine (dec_pos' v (fun _ => 48) 0 _ HVZ.out (by omega) rfl (.inl rfl)).mono ?_
            rintro _ w2 ⟨bb, rfl, hD, hbel2, hbb⟩
            have HDD : Hid (∀ j, j < 0 + 1 → w2.cell? ⟨bb, 0 + j, none⟩ = some (.int .u8 ((fun _ => 48) j))) := hD
            clear hD
            go_wp2_with fail
            refine (same_yes' _ _ _ _ _ _ _ _ (fun _ => 48) _ rfl (by omega) HDD.out (fun j hj => cell_later hbel2 (one_new w1 j hj))).mono ?_
            rintro _ _ ⟨rfl, mm, hw2⟩
            obtain rfl := hw2.symm
            go_wp2
            go_ret
            exact ⟨rfl, below_drewN ((hbel.alloc hbel.size _).trans (hbel2.mono (by have := hbel.size; simp; omega))) _⟩

end Go.Proofs.Qxb6602279a
