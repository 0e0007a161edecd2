import Derived.Test.Qxb6602279aRtLaw
namespace Go.Proofs.Qxb6602279a
open Go.RowKit Plain

theorem rt_some (x : Addr) (n c : Nat) (g : Nat → Int) (w : World) (h1 : 0 < n) (hn : n ≤ 1048576) (hx : ∀ j, j < n → w.cell? (x.add j) = some (.int .u8 (g j))) :
    Calls Try.prog 9 #[.slice (some x) n c] w fun e w' => e = .returned (.bool true) ∧ Below w.heap.size w w' := by
  by_cases hsc : scan g n 0 = (n, true)
  · by_cases h45 : g 0 = 45
    · obtain ⟨d, hd⟩ : ∃ d : Nat → Int, ∀ j, d j = g (1 + j) := ⟨fun j => g (1 + j), fun _ => rfl⟩
      obtain ⟨m, hm⟩ : ∃ m, m + 1 = n := ⟨n - 1, by omega⟩
      have hs := sign_neg (g := g) h1 h45
      cases hb : sOK d m with
      | true =>
        obtain ⟨h18, hall⟩ : m ≤ 18 ∧ allDig d m = true := by unfold sOK at hb; simpa using hb
        have hwh : wh g n = true := by
          cases hw : wh g n with
          | true => rfl
          | false =>
            obtain ⟨j, hj, hmk⟩ := wh_no hw
            have hk := mark_notDig hmk
            exfalso
            by_cases e : j = 0
            · rw [e] at hk; exact hk.2 h45
            · have := allDig_at hall (j := j - 1) (by omega)
              rw [hd, show 1 + (j - 1) = j by omega] at this
              exact hk.1 this
        obtain ⟨a, b, e⟩ := json_whole hs.symm hsc hwh
        have e0 : d 0 = g 1 := hd 0
        exact rt_neg_yes x n m c g d w hn hm h45 hd hx hsc hb hwh h18 hall (show m = 1 ∧ d 0 = 48 ∨ 49 ≤ d 0 by rw [e0]; omega) (by omega)
      | false =>
        refine rt_neg_no x n m c g d w hn hm h45 hd hx hsc hb (show wh g n = false ∨ 18 < m from ?_)
        cases hw : wh g n with
        | false => exact .inl rfl
        | true =>
          obtain ⟨a, b, e⟩ := json_whole hs.symm hsc hw
          have hall : allDig d m = true := allDig_of fun j hj => by rw [hd]; exact b (1 + j) (by omega) (by omega)
          refine .inr ?_
          unfold sOK at hb
          rw [hall, Bool.and_true] at hb
          simpa using hb
    · have hs := sign_pos (g := g) (n := n) h45
      cases hb : sOK g n with
      | true =>
        obtain ⟨h18, hall⟩ : n ≤ 18 ∧ allDig g n = true := by unfold sOK at hb; simpa using hb
        have hwh : wh g n = true := by
          cases hw : wh g n with
          | true => rfl
          | false =>
            obtain ⟨j, hj, hmk⟩ := wh_no hw
            exact absurd (allDig_at hall hj) (mark_notDig hmk).1
        obtain ⟨a, b, e⟩ := json_whole hs.symm hsc hwh
        exact rt_pos_yes x n c g w h1 hn h45 hx hsc hb hwh h18 hall (show n = 1 ∧ g 0 = 48 ∨ 49 ≤ g 0 by omega)
      | false =>
        refine rt_pos_no x n c g w h1 hn h45 hx hsc hb (show wh g n = false ∨ 18 < n from ?_)
        cases hw : wh g n with
        | false => exact .inl rfl
        | true =>
          obtain ⟨a, b, e⟩ := json_whole hs.symm hsc hw
          have hall : allDig g n = true := allDig_of fun j hj => b j (by omega) hj
          refine .inr ?_
          unfold sOK at hb
          rw [hall, Bool.and_true] at hb
          simpa using hb
  · exact rt_skip x n c g w h1 hn hx hsc

end Go.Proofs.Qxb6602279a
