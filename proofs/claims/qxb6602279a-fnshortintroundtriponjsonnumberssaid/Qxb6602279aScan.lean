import Derived.Test.Qxb6602279aBase
import Derived.Deep.CutRange
import Derived.Deep.CutBlock
namespace Go.Proofs.Qxb6602279a
open Go.RowKit Plain

theorem ret_scan {p : Nat × Bool} {x : Nat} {y : Bool} (h : p = (x, y)) : Ending.returned (.tuple #[.int .i64 (x : Int), .bool y]) = .returned (.tuple #[.int .i64 (p.1 : Int), .bool p.2]) := by rw [h]

set_option maxRecDepth 20000 in
set_option maxHeartbeats 1000000 in
theorem scan_some (b off n c : Nat) (g : Nat → Int) (i : Nat) (w : World) (hn : n ≤ 9223372036854775807) (hi : i ≤ 9223372036854775807) (hc : ∀ j, j < n → w.cell? ⟨b, off + j, none⟩ = some (.int .u8 (g j))) :
    Calls Try.prog 29 #[.slice (some ⟨b, off, none⟩) n c, .int .i64 i] w fun e w' => e = .returned (.tuple #[.int .i64 (scan g n i).1, .bool (scan g n i).2]) ∧ w' = w := by
  have hS : Seg w (some ⟨b, off, none⟩) n g := .inr ⟨b, off, rfl, hc⟩
  have hm : n ≤ maxLen := by unfold maxLen; omega
  go_enter Try.func29, Try.ntmps29
  go_upto_region 2 with fail
  go_cut [20] from 9 to 20 (fun t wx => t = .bool (tSign g n i) ∧ w = wx)
  case first =>
    by_cases h1 : i < n
    · have hcell := hc i h1
      by_cases h2 : g i = 45
      · have ht : tSign g n i = true := has_yes h1 (by simpa using h2)
        have hd : (g i == 45) = true := by simpa using h2
        clear h2
        go_wp2
        go_meet
        exact ⟨by rw [ht], rfl⟩
      · have ht : tSign g n i = false := has_no (by simpa using h2)
        have hd : (g i == 45) = false := by simpa using h2
        clear h2
        go_wp2
        go_meet
        exact ⟨by rw [ht], rfl⟩
    · have ht : tSign g n i = false := has_out h1
      go_wp2
      go_meet
      exact ⟨by rw [ht], rfl⟩
  case rest =>
    obtain ⟨rfl, rfl⟩ := hcut
    go_upto_if 20 with fail
    go_cut [6] from 9 to 22 (fun t wx => t = .int .i64 (scanSign g n i) ∧ w = wx)
    case first =>
      cases h : tSign g n i with
      | true =>
        have h1 : i < n := (has_iff.1 h).1
        go_wp2
        go_meet
        exact ⟨by simp [scanSign, h], rfl⟩
      | false =>
        go_wp2
        go_meet
        exact ⟨by simp [scanSign, h], rfl⟩
    case rest =>
      obtain ⟨rfl, rfl⟩ := hcut
      have hj : scanSign g n i ≤ 9223372036854775807 := by
        unfold scanSign; split
        · have h1 : i < n := (has_iff.1 ‹_›).1
          omega
        · omega
      obtain ⟨j, hjj⟩ : ∃ j, j = scanSign g n i := ⟨_, rfl⟩
      rw [← hjj] at hj ⊢
      have HJ : Hid (j = scanSign g n i) := hjj
      clear hjj
      go_upto_block 0 with fail
      go_cut [6] from 9 to 59 (fun t wx => ((scanInt g n j).2 = true ∧ t = .int .i64 (scanInt g n j).1) ∧ w = wx)
      case first =>
        by_cases h1 : j < n
        · have hcell := hc j h1
          by_cases h2 : g j = 48
          · have ht : Hid (scanInt g n j = (j + 1, true)) := scanInt_zero h1 h2
            have hd : (g j == 48) = true := by simpa using h2
            clear h2
            go_wp2
            go_meet
            exact ⟨⟨by rw [ht.out], by rw [ht.out]; go_num⟩, rfl⟩
          · have hd : (g j == 48) = false := by simpa using h2
            by_cases h3 : 49 ≤ g j ∧ g j ≤ 57
            · have ht : Hid (scanInt g n j = (skipD g n j, true)) := scanInt_nine h1 h3.1 h3.2
              obtain ⟨h3, h4⟩ := h3
              clear h2
              go_wp2_with (go_at_call 34; refine (skip_any _ _ _ g _ j rfl _ hm hj hS).mono ?_; rintro e w' ⟨rfl, rfl⟩)
              go_meet
              exact ⟨⟨by rw [ht.out], by rw [ht.out]⟩, rfl⟩
            · have ht : Hid (scanInt g n j = (j, false)) := scanInt_no (fun h => h2 h.2) (fun h => h3 h.2)
              have hsc := scan_noInt (i := i) (g := g) (n := n) (by rw [← HJ.out, ht.out])
              rw [← HJ.out, ht.out] at hsc
              have HC : Hid (scan g n i = (j, false)) := hsc
              clear hsc h2
              by_cases h4 : 49 ≤ g j
              · have h5 : ¬ g j ≤ 57 := fun h => h3 ⟨h4, h⟩
                clear h3
                go_wp2
                go_ret2
                exact ⟨ret_scan HC.out, rfl⟩
              · clear h3
                go_wp2
                go_ret2
                exact ⟨ret_scan HC.out, rfl⟩
        · have ht : Hid (scanInt g n j = (j, false)) := scanInt_no (fun h => h1 h.1) (fun h => h1 h.1)
          have hsc := scan_noInt (i := i) (g := g) (n := n) (by rw [← HJ.out, ht.out])
          rw [← HJ.out, ht.out] at hsc
          have HC : Hid (scan g n i = (j, false)) := hsc
          clear hsc
          go_wp2
          go_ret2
          exact ⟨ret_scan HC.out, rfl⟩
      case rest =>
        obtain ⟨⟨hI, rfl⟩, rfl⟩ := hcut
        obtain ⟨m, hmm⟩ : ∃ m, m = (scanInt g n j).1 := ⟨_, rfl⟩
        have hmn : m ≤ n := by rw [hmm]; exact (scanInt_bd hI).2
        rw [← hmm]
        have HM : Hid (m = (scanInt g n j).1) := hmm
        have HI : Hid ((scanInt g n j).2 = true) := hI
        clear hmm hI
        go_upto_region 9 with fail
        go_cut [70] from 9 to 70 (fun t wx => t = .bool (tDot g n m) ∧ w = wx)
        case first =>
          by_cases h1 : m < n
          · have hcell := hc m h1
            by_cases h2 : g m = 46
            · have ht : tDot g n m = true := has_yes h1 (by simpa using h2)
              have hd : (g m == 46) = true := by simpa using h2
              clear h2
              go_wp2
              go_meet
              exact ⟨by rw [ht], rfl⟩
            · have ht : tDot g n m = false := has_no (by simpa using h2)
              have hd : (g m == 46) = false := by simpa using h2
              clear h2
              go_wp2
              go_meet
              exact ⟨by rw [ht], rfl⟩
          · have ht : tDot g n m = false := has_out h1
            go_wp2
            go_meet
            exact ⟨by rw [ht], rfl⟩
        case rest =>
          obtain ⟨rfl, rfl⟩ := hcut
          go_upto_if 70 with fail
          go_cut [6] from 9 to 80 (fun t wx => ((scanFrac g n m).2 = true ∧ t = .int .i64 (scanFrac g n m).1) ∧ w = wx)
          case first =>
            cases h : tDot g n m with
            | true =>
              have h1 : m < n := (has_iff.1 h).1
              have hf : Hid (scanFrac g n m = (skipD g n (m + 1), decide (m + 1 < skipD g n (m + 1)))) := by
                show _ = _; unfold scanFrac; rw [h]; rfl
              clear h
              obtain ⟨k, hk⟩ : ∃ k, k = skipD g n (m + 1) := ⟨_, rfl⟩
              have hkn : m + 1 ≤ k ∧ k ≤ n := by
                have := skipD_bd g n (m + 1); rw [hk]; exact ⟨this.1, this.2.1 (by omega)⟩
              obtain ⟨hk1, hk2⟩ := hkn
              have HK : Hid (k = skipD g n (m + 1)) := hk
              clear hk
              by_cases h2 : m + 1 < k
              · go_wp2_with (go_at_call 34; refine (skip_any _ _ _ g _ (m + 1) (by omega) _ hm (by omega) hS).mono ?_; rw [← HK.out]; rintro e w' ⟨rfl, rfl⟩)
                go_meet
                exact ⟨⟨by rw [hf.out, ← HK.out]; simp [h2], by rw [hf.out, ← HK.out]⟩, rfl⟩
              · have h3 : k = m + 1 := by omega
                have HC : Hid (scan g n i = (k, false)) := by
                  show _ = _
                  rw [scan_noFrac (by rw [← HJ.out]; exact HI.out) (by rw [← HJ.out, ← HM.out, hf.out, ← HK.out]; simp [h2]), ← HJ.out, ← HM.out, hf.out, ← HK.out]
                  simp [h2]
                clear h3
                go_wp2_with (go_at_call 34; refine (skip_any _ _ _ g _ (m + 1) (by omega) _ hm (by omega) hS).mono ?_; rw [← HK.out]; rintro e w' ⟨rfl, rfl⟩)
                go_ret2
                exact ⟨ret_scan HC.out, rfl⟩
            | false =>
              have hf : Hid (scanFrac g n m = (m, true)) := by
                show _ = _; unfold scanFrac; rw [h]; rfl
              go_wp2
              go_meet
              exact ⟨⟨by rw [hf.out], by rw [hf.out]⟩, rfl⟩
          case rest =>
            obtain ⟨⟨hF, rfl⟩, rfl⟩ := hcut
            obtain ⟨q, hqq⟩ : ∃ q, q = (scanFrac g n m).1 := ⟨_, rfl⟩
            have hqn : q ≤ n := by rw [hqq]; exact (scanFrac_bd hmn).2
            have HE : Hid (scan g n i = scanExp g n q) := by
              show _ = _
              rw [scan_exp (by rw [← HJ.out]; exact HI.out) (by rw [← HJ.out, ← HM.out]; exact hF), ← HJ.out, ← HM.out, ← hqq]
            rw [← hqq]
            clear hqq hF
            go_upto_region 14 with fail
            go_cut [98] from 9 to 98 (fun t wx => t = .bool (tExp g n q) ∧ w = wx)
            case first =>
              by_cases h1 : q < n
              · have hcell := hc q h1
                by_cases h2 : g q = 101
                · have ht : tExp g n q = true := has_yes h1 (by simp [h2])
                  have hd : (g q == 101) = true := by simpa using h2
                  clear h2
                  go_wp2
                  go_meet
                  exact ⟨by rw [ht], rfl⟩
                · have hd : (g q == 101) = false := by simpa using h2
                  by_cases h3 : g q = 69
                  · have ht : tExp g n q = true := has_yes h1 (by simp [h3])
                    have hd3 : (g q == 69) = true := by simpa using h3
                    clear h2 h3
                    go_wp2
                    go_meet
                    exact ⟨by rw [ht], rfl⟩
                  · have ht : tExp g n q = false := has_no (by simp [h2, h3])
                    have hd3 : (g q == 69) = false := by simpa using h3
                    clear h2 h3
                    go_wp2
                    go_meet
                    exact ⟨by rw [ht], rfl⟩
              · have ht : tExp g n q = false := has_out h1
                go_wp2
                go_meet
                exact ⟨by rw [ht], rfl⟩
            case rest =>
              obtain ⟨rfl, rfl⟩ := hcut
              go_upto_if 98 with fail
              go_cut [6] from 9 to 128 (fun t wx => ((scanExp g n q).2 = true ∧ t = .int .i64 (scanExp g n q).1) ∧ w = wx)
              case first =>
                cases h : tExp g n q with
                | true =>
                  have h1 : q < n := (has_iff.1 h).1
                  have hf : Hid (scanExp g n q = (skipD g n (scanPM g n (q + 1)), decide (scanPM g n (q + 1) < skipD g n (scanPM g n (q + 1))))) := by
                    show _ = _; unfold scanExp; rw [h]; rfl
                  clear h
                  go_upto_region 16 with fail
                  go_cut [118] from 9 to 118 (fun t wx => t = .bool (tPM g n (q + 1)) ∧ w = wx)
                  case first =>
                    by_cases h1 : q + 1 < n
                    · have hcell := hc (q + 1) h1
                      by_cases h2 : g (q + 1) = 43
                      · have ht : tPM g n (q + 1) = true := has_yes h1 (by simp [h2])
                        have hd : (g (q + 1) == 43) = true := by simpa using h2
                        clear h2
                        go_wp2
                        go_meet
                        exact ⟨by rw [ht], rfl⟩
                      · have hd : (g (q + 1) == 43) = false := by simpa using h2
                        by_cases h3 : g (q + 1) = 45
                        · have ht : tPM g n (q + 1) = true := has_yes h1 (by simp [h3])
                          have hd3 : (g (q + 1) == 45) = true := by simpa using h3
                          clear h2 h3
                          go_wp2
                          go_meet
                          exact ⟨by rw [ht], rfl⟩
                        · have ht : tPM g n (q + 1) = false := has_no (by simp [h2, h3])
                          have hd3 : (g (q + 1) == 45) = false := by simpa using h3
                          clear h2 h3
                          go_wp2
                          go_meet
                          exact ⟨by rw [ht], rfl⟩
                    · have ht : tPM g n (q + 1) = false := has_out h1
                      go_wp2
                      go_meet
                      exact ⟨by rw [ht], rfl⟩
                  case rest =>
                    obtain ⟨rfl, rfl⟩ := hcut
                    go_upto_if 118 with fail
                    go_cut [6] from 9 to 120 (fun t wx => t = .int .i64 (scanPM g n (q + 1)) ∧ w = wx)
                    case first =>
                      cases h : tPM g n (q + 1) with
                      | true =>
                        have h2 : q + 1 < n := (has_iff.1 h).1
                        go_wp2
                        go_meet
                        exact ⟨by simp [scanPM, h], rfl⟩
                      | false =>
                        go_wp2
                        go_meet
                        exact ⟨by simp [scanPM, h], rfl⟩
                    case rest =>
                      obtain ⟨rfl, rfl⟩ := hcut
                      obtain ⟨r, hr⟩ : ∃ r, r = scanPM g n (q + 1) := ⟨_, rfl⟩
                      rw [← hr] at hf ⊢
                      have hrn : r ≤ n := by
                        rw [hr]; unfold scanPM; split
                        · have := (has_iff.1 ‹_›).1
                          omega
                        · omega
                      clear hr
                      obtain ⟨k, hk⟩ : ∃ k, k = skipD g n r := ⟨_, rfl⟩
                      have hkn : r ≤ k ∧ k ≤ n := by
                        have := skipD_bd g n r; rw [hk]; exact ⟨this.1, this.2.1 (by omega)⟩
                      obtain ⟨hk1, hk2⟩ := hkn
                      have HK : Hid (k = skipD g n r) := hk
                      clear hk
                      by_cases h2 : r < k
                      · go_wp2_with (go_at_call 34; refine (skip_any _ _ _ g _ r rfl _ hm (by omega) hS).mono ?_; rw [← HK.out]; rintro e w' ⟨rfl, rfl⟩)
                        go_meet
                        exact ⟨⟨by rw [hf.out, ← HK.out]; simp [h2], by rw [hf.out, ← HK.out]⟩, rfl⟩
                      · have HC : Hid (scan g n i = (k, false)) := by
                          show _ = _
                          rw [HE.out, hf.out, ← HK.out]
                          simp [h2]
                        go_wp2_with (go_at_call 34; refine (skip_any _ _ _ g _ r rfl _ hm (by omega) hS).mono ?_; rw [← HK.out]; rintro e w' ⟨rfl, rfl⟩)
                        go_ret2
                        exact ⟨ret_scan HC.out, rfl⟩
                | false =>
                  have hf : Hid (scanExp g n q = (q, true)) := by
                    show _ = _; unfold scanExp; rw [h]; rfl
                  go_wp2
                  go_meet
                  exact ⟨⟨by rw [hf.out], by rw [hf.out]⟩, rfl⟩
              case rest =>
                obtain ⟨⟨hF, rfl⟩, rfl⟩ := hcut
                have HF : Hid (scan g n i = ((scanExp g n q).1, true)) := by
                  show _ = _; rw [HE.out, ← hF]
                clear hF
                go_wp2
                go_ret2
                exact ⟨ret_scan HF.out, rfl⟩

theorem scan_any (a : Option Addr) (n c : Nat) (g : Nat → Int) (z : Int) (i : Nat) (hz : z = i) (w : World) (hn : n ≤ maxLen) (hi : i ≤ 9223372036854775807) (hs : Seg w a n g) :
    Calls Try.prog 29 #[.slice a n c, .int .i64 z] w fun e w' => e = .returned (.tuple #[.int .i64 (scan g n i).1, .bool (scan g n i).2]) ∧ w' = w := by
  subst hz
  unfold maxLen at hn
  rcases hs with rfl | ⟨b, off, rfl, hc⟩
  · have HC : Hid (scan g 0 i = (i, false)) := scan_nil g i
    go_enter Try.func29, Try.ntmps29
    go_wp2
    go_ret2
    exact ⟨ret_scan HC.out, rfl⟩
  · exact scan_some b off n c g i w (by omega) hi hc

theorem zzscan_any (a : Option Addr) (n c : Nat) (g : Nat → Int) (z : Int) (i : Nat) (hz : z = i) (w : World) (hn : n ≤ maxLen) (hi : i ≤ 9223372036854775807) (hs : Seg w a n g) :
    Calls Try.prog 12 #[.slice a n c, .int .i64 z] w fun e w' => e = .returned (.tuple #[.int .i64 (scan g n i).1, .bool (scan g n i).2]) ∧ w' = w := by
  subst hz
  go_enter Try.func12, Try.ntmps12
  go_wp2_with (go_at_call 29; refine (scan_any _ _ _ g _ i rfl _ hn hi hs).mono ?_; rintro e w' ⟨rfl, rfl⟩)
  go_ret2
  exact ⟨rfl, rfl⟩

end Go.Proofs.Qxb6602279a
