import Derived.Test.Qxb6602279aScan
import Derived.Test.Qxb6602279aClone
import Derived.Test.Qxb6602279aBytes
namespace Go.Proofs.Qxb6602279a
open Go.RowKit Plain

theorem shift_long (a : Option Addr) (n c : Nat) (z : Int) (w : World) (h : 1048576 < n) :
    Calls Try.prog 4 #[.slice a n c, .int .i64 z] w fun e w' => e = .returned (.bool true) ∧ w' = w := by
  go_enter Try.func4, Try.ntmps4
  go_wp2_with (go_at_call 14; refine (bytes14_no _ _ _ _ _ h).mono ?_; rintro e w' ⟨rfl, rfl⟩)
  go_ret
  exact ⟨rfl, rfl⟩

theorem shift_neg (a : Option Addr) (n c : Nat) (z : Int) (w : World) (h : n ≤ 1048576) (hz : z < 0) :
    Calls Try.prog 4 #[.slice a n c, .int .i64 z] w fun e w' => e = .returned (.bool true) ∧ w' = w := by
  go_enter Try.func4, Try.ntmps4
  go_wp2_with (go_at_call 14; refine (bytes14_yes _ _ _ _ _ h).mono ?_; rintro e w' ⟨rfl, rfl⟩)
  go_ret
  exact ⟨rfl, rfl⟩

theorem shift_past (a : Option Addr) (n c : Nat) (z : Int) (w : World) (h : n ≤ 1048576) (hz0 : 0 ≤ z) (hz : n < z) :
    Calls Try.prog 4 #[.slice a n c, .int .i64 z] w fun e w' => e = .returned (.bool true) ∧ w' = w := by
  go_enter Try.func4, Try.ntmps4
  go_wp2_with (go_at_call 14; refine (bytes14_yes _ _ _ _ _ h).mono ?_; rintro e w' ⟨rfl, rfl⟩)
  go_ret
  exact ⟨rfl, rfl⟩

set_option maxHeartbeats 1000000 in
theorem shift_some (x : Addr) (n c : Nat) (g : Nat → Int) (i : Nat) (w : World) (hn : n ≤ 1048576) (hi : i ≤ n) (hx : ∀ j, j < n → w.cell? (x.add j) = some (.int .u8 (g j))) :
    Calls Try.prog 4 #[.slice (some x) n c, .int .i64 i] w fun e w' => e = .returned (.bool true) ∧ Below w.heap.size w w' := by
  have hm : n ≤ maxLen := by unfold maxLen; omega
  have hb := scan_bd (g := g) hi
  have hsh := scan_shift g n i 0 hi
  rw [Nat.add_zero] at hsh
  obtain ⟨p, hp⟩ : ∃ p, p = scan (fun k => g (i + k)) (n - i) 0 := ⟨_, rfl⟩
  rw [← hp] at hsh
  have HP : Hid (scan (fun k => g (i + k)) (n - i) 0 = p) := hp.symm
  obtain ⟨q, hq⟩ : ∃ q, q = scan g n i := ⟨_, rfl⟩
  rw [← hq] at hsh hb
  have HQ : Hid (scan g n i = q) := hq.symm
  clear hp hq
  obtain ⟨e, ok⟩ := q
  obtain ⟨e0, ok0⟩ := p
  simp only [Prod.mk.injEq] at hsh
  obtain ⟨he, hok⟩ := hsh
  subst hok
  obtain ⟨hb1, hb2, hb3⟩ := hb
  simp only at hb1 hb2 hb3
  have HE : Hid (e = i + e0) := he
  have H3 : Hid (ok = true → i < e) := hb3
  have he0 : e0 ≤ 1048576 := by omega
  clear he hb3
  go_enter Try.func4, Try.ntmps4
  go_wp2_with (first | (go_at_call 14; refine (bytes14_yes _ _ _ _ _ hn).mono ?_; rintro _ _ ⟨rfl, hw⟩; obtain rfl := hw.symm) | (go_at_call 11; refine (clone_some x n c g _ hn hx).mono ?_; rintro e w1 ⟨rfl, hc1, hbel, hsz⟩) | fail)
  have hS : Seg w1 (some ⟨w.heap.size, 0, none⟩) n g := .inr ⟨_, _, rfl, hc1⟩
  refine (zzscan_any _ _ _ g _ i rfl _ hm (by omega) hS).mono ?_
  rw [HQ.out]
  rintro _ _ ⟨rfl, hw⟩
  obtain rfl := hw.symm
  clear hS
  have hS2 : Hid (∀ j, j < n - i → w1.cell? ⟨w.heap.size, i + j, none⟩ = some (.int .u8 (g (i + j)))) := by
    intro j hj
    have := hc1 (i + j) (by omega)
    rwa [Nat.zero_add] at this
  clear hc1
  have hm2 : n - i ≤ maxLen := by unfold maxLen; omega
  have hd : ((e0 : Int) + (i : Int) == (e : Int)) = true := by have := HE.out; simp; omega
  cases ok with
  | true =>
    have h3 : i < e := H3.out rfl
    go_wp2_with fail
    have hS : Seg w1 (some ⟨w.heap.size, i, none⟩) (n - i) (fun k => g (i + k)) := .inr ⟨_, _, rfl, hS2.out⟩
    refine (zzscan_any _ _ _ (fun k => g (i + k)) _ 0 rfl _ hm2 (by omega) hS).mono ?_
    rw [HP.out]
    rintro _ _ ⟨rfl, hw⟩
    obtain rfl := hw.symm
    go_wp2_with fail
    go_ret
    exact ⟨rfl, hbel⟩
  | false =>
    rcases Nat.lt_or_ge i n with hlt | hge
    · go_wp2_with fail
      have hS : Seg w1 (some ⟨w.heap.size, i, none⟩) (n - i) (fun k => g (i + k)) := .inr ⟨_, _, rfl, hS2.out⟩
      refine (zzscan_any _ _ _ (fun k => g (i + k)) _ 0 rfl _ hm2 (by omega) hS).mono ?_
      rw [HP.out]
      rintro _ _ ⟨rfl, hw⟩
      obtain rfl := hw.symm
      go_wp2_with fail
      go_ret
      exact ⟨rfl, hbel⟩
    · obtain rfl : n = i := by omega
      rw [Nat.sub_self] at HP
      go_wp2_with fail
      have hS : Seg w1 (some ⟨w.heap.size, 0, none⟩) 0 (fun k => g (n + k)) := .inl rfl
      refine (zzscan_any _ _ _ (fun k => g (n + k)) _ 0 rfl _ (by unfold maxLen; omega) (by omega) hS).mono ?_
      rw [HP.out]
      rintro _ _ ⟨rfl, hw⟩
      obtain rfl := hw.symm
      go_wp2_with fail
      go_ret
      exact ⟨rfl, hbel⟩

set_option maxHeartbeats 1000000 in
theorem shift_nil (w : World) :
    Calls Try.prog 4 #[.slice none 0 0, .int .i64 0] w fun e w' => e = .returned (.bool true) ∧ w' = w := by
  have HQ : Hid (scan (fun _ => 0) 0 0 = (0, false)) := scan_nil _ 0
  have hS : Seg w none 0 (fun _ => 0) := .inl rfl
  have hm : 0 ≤ maxLen := by unfold maxLen; omega
  go_enter Try.func4, Try.ntmps4
  go_wp2_with (first | (go_at_call 14; refine (bytes14_yes _ _ _ _ _ (by omega)).mono ?_; rintro _ _ ⟨rfl, hw⟩; obtain rfl := hw.symm) | (go_at_call 11; refine (clone_nil _).mono ?_; rintro _ _ ⟨rfl, hw⟩; obtain rfl := hw.symm) | (go_at_call 12; refine (zzscan_any _ _ _ (fun _ => 0) _ 0 rfl _ hm (by omega) hS).mono ?_; rw [HQ.out]; rintro _ _ ⟨rfl, hw⟩; obtain rfl := hw.symm))
  go_ret
  exact ⟨rfl, rfl⟩

end Go.Proofs.Qxb6602279a
