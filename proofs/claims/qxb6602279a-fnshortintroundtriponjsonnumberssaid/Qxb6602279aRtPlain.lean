/-
  PLAIN: a text that scanNumber accepts whole. No Go here.
-/
import Derived.Test.Qxb6602279aAutoPlain
namespace Go.Proofs.Qxb6602279a.Plain

/-- no point and no exponent mark among the first k bytes -/
def wh (g : Nat → Int) : Nat → Bool
  | 0 => true
  | k + 1 => wh g k && !((g k == 46) || isExp (g k))

theorem wh_at {g : Nat → Int} : ∀ {k j}, wh g k = true → j < k → (g j == 46) = false ∧ isExp (g j) = false
  | 0, j, _, hj => by omega
  | k + 1, j, h, hj => by
    simp only [wh, Bool.and_eq_true, Bool.not_eq_true', Bool.or_eq_false_iff] at h
    by_cases e : j = k
    · rw [e]; exact h.2
    · exact wh_at h.1 (by omega)

theorem wh_no {g : Nat → Int} : ∀ {k}, wh g k = false → ∃ j, j < k ∧ ((g j == 46) = true ∨ isExp (g j) = true)
  | 0, h => by simp [wh] at h
  | k + 1, h => by
    by_cases h1 : wh g k = true
    · simp only [wh, h1, Bool.true_and, Bool.not_eq_false', Bool.or_eq_true] at h
      exact ⟨k, by omega, h⟩
    · obtain ⟨j, hj, r⟩ := wh_no (by simpa using h1)
      exact ⟨j, by omega, r⟩

theorem skip_digits (g : Nat → Int) (n : Nat) : ∀ f p, n - p = f → ∀ j, p ≤ j → j < skipD g n p → 48 ≤ g j ∧ g j ≤ 57
  | 0, p, hf, j, h1, h2 => by rw [skipD_stop (by omega)] at h2; omega
  | f + 1, p, hf, j, h1, h2 => by
    by_cases h : p < n ∧ 48 ≤ g p ∧ g p ≤ 57
    · by_cases e : j = p
      · rw [e]; exact h.2
      · rw [skipD_step h.1 h.2.1 h.2.2] at h2
        exact skip_digits g n f (p + 1) (by omega) j (by omega) h2
    · rw [skipD_stop h] at h2; omega

theorem scanInt_digits {g : Nat → Int} {n p : Nat} (h : (scanInt g n p).2 = true) :
    p < n ∧ (∀ j, p ≤ j → j < (scanInt g n p).1 → 48 ≤ g j ∧ g j ≤ 57) ∧ ((scanInt g n p).1 = p + 1 ∧ g p = 48 ∨ 49 ≤ g p) := by
  unfold scanInt at h ⊢
  cases hz : tZero g n p with
  | true =>
    obtain ⟨h1, h2⟩ := tZero_iff.1 hz
    simp at h2
    refine ⟨h1, fun j a b => ?_, .inl ⟨rfl, h2⟩⟩
    obtain rfl : j = p := by simp at b; omega
    omega
  | false =>
    cases hn : tNine g n p with
    | true =>
      obtain ⟨h1, h2⟩ := tNine_iff.1 hn
      exact ⟨h1, fun j a b => skip_digits g n _ p rfl j a (by simpa using b), .inr h2.1⟩
    | false => rw [hz, hn] at h; simp at h

/-- a whole number that is accepted to its end: behind the sign all bytes are digits, no zero ahead but a lone one -/
theorem json_whole {g : Nat → Int} {n s : Nat} (hs : s = scanSign g n 0) (h : scan g n 0 = (n, true)) (hw : wh g n = true) :
    s < n ∧ (∀ j, s ≤ j → j < n → 48 ≤ g j ∧ g j ≤ 57) ∧ (n = s + 1 ∧ g s = 48 ∨ 49 ≤ g s) := by
  subst hs
  cases hI : (scanInt g n (scanSign g n 0)).2 with
  | false =>
    have e := scan_noInt hI
    rw [h] at e
    rw [← e] at hI
    simp at hI
  | true =>
    obtain ⟨a, b, c⟩ := scanInt_digits hI
    obtain ⟨q, hq⟩ : ∃ q, q = (scanInt g n (scanSign g n 0)).1 := ⟨_, rfl⟩
    have hb := scanInt_bd hI
    rw [← hq] at b c hb
    have hdot : tDot g n q = false := by
      rw [Bool.eq_false_iff]; intro e
      obtain ⟨e1, e2⟩ := tDot_iff.1 e
      rw [(wh_at hw e1).1] at e2; simp at e2
    have hexp : tExp g n q = false := by
      rw [Bool.eq_false_iff]; intro e
      obtain ⟨e1, e2⟩ := tExp_iff.1 e
      rw [(wh_at hw e1).2] at e2; simp at e2
    have hf : scanFrac g n q = (q, true) := by unfold scanFrac; rw [hdot]; rfl
    have he : scanExp g n q = (q, true) := by unfold scanExp; rw [hexp]; rfl
    have e := scan_exp hI (by rw [← hq, hf])
    rw [← hq, hf, he, h] at e
    have hqn : n = q := by simpa using e
    rw [← hqn] at b c
    exact ⟨a, b, c⟩

theorem sign_pos {g : Nat → Int} {n : Nat} (h : g 0 ≠ 45) : scanSign g n 0 = 0 := by
  unfold scanSign
  rw [if_neg]
  intro e
  exact h (by simpa using (tSign_iff.1 e).2)
theorem sign_neg {g : Nat → Int} {n : Nat} (hn : 0 < n) (h : g 0 = 45) : scanSign g n 0 = 1 := by
  unfold scanSign
  rw [if_pos (tSign_iff.2 ⟨hn, by simpa using h⟩)]

theorem mark_notDig {c : Int} (h : (c == 46) = true ∨ isExp c = true) : ¬ (48 ≤ c ∧ c ≤ 57) ∧ c ≠ 45 := by
  rcases h with h | h
  · simp at h; omega
  · simp [isExp] at h; omega

end Go.Proofs.Qxb6602279a.Plain
