/-
  PLAIN: the number automaton answers what scanNumber answers. No Go here.
-/
import Derived.Test.Qxb6602279aPlain
import Derived.Test.Qxb6602279aDecPlain
namespace Go.Proofs.Qxb6602279a.Plain

def isExp (c : Int) : Bool := (c == 101) || (c == 69)
def isPM (c : Int) : Bool := (c == 43) || (c == 45)

def step0 (c : Int) : Int := if (c == 45) = true then 1 else if (c == 48) = true then 2 else if isDig c = true then 3 else -1
def step1 (c : Int) : Int := if (c == 48) = true then 2 else if isDig c = true then 3 else -1
def step2 (c : Int) : Int := if (c == 46) = true then 4 else if isExp c = true then 6 else -1
def step3 (c : Int) : Int := if isDig c = true then 3 else if (c == 46) = true then 4 else if isExp c = true then 6 else -1
def step4 (c : Int) : Int := if isDig c = true then 5 else -1
def step5 (c : Int) : Int := if isDig c = true then 5 else if isExp c = true then 6 else -1
def step6 (c : Int) : Int := if isPM c = true then 7 else if isDig c = true then 8 else -1
def step7 (c : Int) : Int := if isDig c = true then 8 else -1

def stepP (s : Nat) (c : Int) : Int :=
  if s = 0 then step0 c else if s = 1 then step1 c else if s = 2 then step2 c else if s = 3 then step3 c else if s = 4 then step4 c
  else if s = 5 then step5 c else if s = 6 then step6 c else step7 c

def acc (s : Nat) : Bool := decide (s = 2 ∨ s = 3 ∨ s = 5 ∨ s = 8)

def auto (g : Nat → Int) (n : Nat) : Nat → Nat → Nat → Nat × Nat
  | 0, s, p => (p, s)
  | f + 1, s, p => if p < n ∧ 0 ≤ stepP s (g p) then auto g n f (stepP s (g p)).toNat (p + 1) else (p, s)

def autoD (g : Nat → Int) (n s p : Nat) : Nat × Nat := auto g n (n - p) s p

theorem autoD_stop {g : Nat → Int} {n s p : Nat} (h : ¬ (p < n ∧ 0 ≤ stepP s (g p))) : autoD g n s p = (p, s) := by
  unfold autoD
  match n - p with
  | 0 => rfl
  | f + 1 => rw [auto, if_neg h]

theorem autoD_step {g : Nat → Int} {n s p t : Nat} (h : p < n) (h2 : stepP s (g p) = t) : autoD g n s p = autoD g n t (p + 1) := by
  unfold autoD
  obtain ⟨f, hf⟩ : ∃ f, n - p = f + 1 := ⟨n - p - 1, by omega⟩
  have hf' : n - (p + 1) = f := by omega
  rw [hf, hf', auto, if_pos ⟨h, by omega⟩, h2]
  rfl

/-- what the automaton answers from state s at p -/
def R (g : Nat → Int) (n s p : Nat) : Nat × Bool := ((autoD g n s p).1, acc (autoD g n s p).2)

theorem R_stop {g : Nat → Int} {n s p : Nat} (h : ¬ (p < n ∧ 0 ≤ stepP s (g p))) : R g n s p = (p, acc s) := by rw [R, autoD_stop h]
theorem R_step {g : Nat → Int} {n s p t : Nat} (h : p < n) (h2 : stepP s (g p) = t) : R g n s p = R g n t (p + 1) := by rw [R, autoD_step h h2]; rfl

/-- a state that goes on by digits -/
theorem R_skip (g : Nat → Int) (n s : Nat) (hs : ∀ c, isDig c = true → stepP s c = s) : ∀ f p, n - p = f → R g n s p = R g n s (skipD g n p)
  | 0, p, hf => by
    rw [skipD_stop (by omega)]
  | f + 1, p, hf => by
    by_cases h : p < n ∧ 48 ≤ g p ∧ g p ≤ 57
    · rw [R_step h.1 (hs _ (isDig_iff.2 h.2)), R_skip g n s hs f (p + 1) (by omega), ← skipD_step h.1 h.2.1 h.2.2]
    · rw [skipD_stop h]

theorem skip_end (g : Nat → Int) (n : Nat) : ∀ f p, n - p = f → ¬ (skipD g n p < n ∧ 48 ≤ g (skipD g n p) ∧ g (skipD g n p) ≤ 57)
  | 0, p, hf => by
    rw [skipD_stop (by omega)]; omega
  | f + 1, p, hf => by
    by_cases h : p < n ∧ 48 ≤ g p ∧ g p ≤ 57
    · rw [skipD_step h.1 h.2.1 h.2.2]; exact skip_end g n f (p + 1) (by omega)
    · rw [skipD_stop h]; exact h

theorem notDig {c : Int} (h : ¬ (48 ≤ c ∧ c ≤ 57)) : isDig c = false := by
  rw [Bool.eq_false_iff]; exact fun e => h (isDig_iff.1 e)

theorem R8 (g : Nat → Int) (n p : Nat) : R g n 8 p = (skipD g n p, true) := by
  rw [R_skip g n 8 (fun c h => by simp [stepP, step7, h]) _ p rfl]
  have he := skip_end g n _ p rfl
  rw [R_stop]
  · rfl
  · intro h
    have : isDig (g (skipD g n p)) = false := notDig fun q => he ⟨h.1, q⟩
    have h2 := h.2
    simp [stepP, step7, this] at h2

theorem R7 (g : Nat → Int) (n p : Nat) : R g n 7 p = (skipD g n p, decide (p < skipD g n p)) := by
  by_cases h : p < n ∧ 48 ≤ g p ∧ g p ≤ 57
  · rw [R_step (t := 8) h.1 (by simp [stepP, step7, isDig_iff.2 h.2]), R8, ← skipD_step h.1 h.2.1 h.2.2]
    have := (skipD_bd g n (p + 1)).1
    rw [← skipD_step h.1 h.2.1 h.2.2] at this
    rw [decide_eq_true (by omega)]
  · rw [skipD_stop h, R_stop]
    · simp [acc]
    · intro q
      have e : isDig (g p) = false := notDig fun x => h ⟨q.1, x⟩
      have h2 := q.2
      simp [stepP, step7, e] at h2

theorem R6 (g : Nat → Int) (n p : Nat) : R g n 6 p = (skipD g n (scanPM g n p), decide (scanPM g n p < skipD g n (scanPM g n p))) := by
  unfold scanPM
  cases ht : tPM g n p with
  | true =>
    obtain ⟨h1, h2⟩ := has_iff.1 ht
    have h3 : isPM (g p) = true := by simpa [isPM] using h2
    rw [R_step (t := 7) h1 (by simp [stepP, step6, h3]), R7]
    rfl
  | false =>
    show R g n 6 p = (skipD g n p, decide (p < skipD g n p))
    have hpm : p < n → isPM (g p) = false := fun hp => by
      rw [Bool.eq_false_iff]; intro e
      rw [tPM, has, decide_eq_true hp] at ht
      simp [isPM] at e
      simp at ht
      omega
    by_cases h : p < n ∧ 48 ≤ g p ∧ g p ≤ 57
    · rw [R_step (t := 8) h.1 (by simp [stepP, step6, isDig_iff.2 h.2, hpm h.1]), R8, ← skipD_step h.1 h.2.1 h.2.2]
      have := (skipD_bd g n (p + 1)).1
      rw [← skipD_step h.1 h.2.1 h.2.2] at this
      rw [decide_eq_true (by omega)]
    · rw [skipD_stop h, R_stop]
      · simp [acc]
      · intro q
        have e : isDig (g p) = false := notDig fun x => h ⟨q.1, x⟩
        have h2 := q.2
        simp [stepP, step6, e, hpm q.1] at h2

theorem tExp_iff {g : Nat → Int} {n p : Nat} : tExp g n p = true ↔ p < n ∧ isExp (g p) = true := by
  rw [tExp, has_iff]
  constructor <;> intro ⟨a, b⟩ <;> refine ⟨a, ?_⟩
  · simpa [isExp] using b
  · simpa [isExp] using b
theorem tDot_iff {g : Nat → Int} {n p : Nat} : tDot g n p = true ↔ p < n ∧ (g p == 46) = true := by
  rw [tDot, has_iff]; simp

/-- behind the digits of a fraction -/
theorem R5 (g : Nat → Int) (n p : Nat) : R g n 5 p = scanExp g n (skipD g n p) := by
  rw [R_skip g n 5 (fun c h => by simp [stepP, step5, h]) _ p rfl]
  have he := skip_end g n _ p rfl
  obtain ⟨q, hq⟩ : ∃ q, q = skipD g n p := ⟨_, rfl⟩
  rw [← hq] at he ⊢
  have hd : q < n → isDig (g q) = false := fun hp => notDig fun x => he ⟨hp, x⟩
  unfold scanExp
  cases ht : tExp g n q with
  | true =>
    obtain ⟨h1, h2⟩ := tExp_iff.1 ht
    rw [R_step (t := 6) h1 (by simp [stepP, step5, h2, hd h1]), R6]
    rfl
  | false =>
    rw [R_stop]
    · rfl
    · intro x
      have e : isExp (g q) = false := by
        rw [Bool.eq_false_iff]; intro e
        have := tExp_iff.2 ⟨x.1, e⟩
        rw [ht] at this; simp at this
      have h2 := x.2
      simp [stepP, step5, e, hd x.1] at h2

/-- behind the point -/
theorem R4 (g : Nat → Int) (n p : Nat) : R g n 4 p = if p < skipD g n p then scanExp g n (skipD g n p) else (p, false) := by
  by_cases h : p < n ∧ 48 ≤ g p ∧ g p ≤ 57
  · have hs := skipD_step h.1 h.2.1 h.2.2
    have := (skipD_bd g n (p + 1)).1
    rw [R_step (t := 5) h.1 (by simp [stepP, step4, isDig_iff.2 h.2]), R5, ← hs, if_pos (by omega)]
  · rw [skipD_stop h, if_neg (by omega), R_stop]
    · rfl
    · intro q
      have e : isDig (g p) = false := notDig fun x => h ⟨q.1, x⟩
      have h2 := q.2
      simp [stepP, step4, e] at h2

/-- behind the whole part -/
def tailF (g : Nat → Int) (n q : Nat) : Nat × Bool := if (scanFrac g n q).2 then scanExp g n (scanFrac g n q).1 else scanFrac g n q

theorem R_tail (g : Nat → Int) (n s q : Nat) (hs : s = 2 ∨ s = 3) (hd : s = 3 → q < n → isDig (g q) = false) : R g n s q = tailF g n q := by
  have hst : ∀ c, (s = 3 → isDig c = false) → stepP s c = if (c == 46) = true then 4 else if isExp c = true then 6 else -1 := by
    intro c hc
    rcases hs with rfl | rfl
    · rfl
    · show step3 c = _
      rw [step3, hc rfl, if_neg (by decide)]
  have ha : acc s = true := by rcases hs with rfl | rfl <;> rfl
  unfold tailF scanFrac
  cases ht : tDot g n q with
  | true =>
    obtain ⟨h1, h2⟩ := tDot_iff.1 ht
    rw [R_step (t := 4) h1 (by rw [hst _ (fun e => hd e h1), if_pos h2]; rfl), R4]
    have hb := (skipD_bd g n (q + 1)).1
    by_cases hl : q + 1 < skipD g n (q + 1)
    · simp [hl]
    · have e : skipD g n (q + 1) = q + 1 := by omega
      simp [e]
  | false =>
    show R g n s q = scanExp g n q
    have hdot : q < n → (g q == 46) = false := fun hp => by
      rw [Bool.eq_false_iff]; intro e
      have := tDot_iff.2 ⟨hp, e⟩
      rw [ht] at this; simp at this
    unfold scanExp
    cases hx : tExp g n q with
    | true =>
      obtain ⟨h1, h2⟩ := tExp_iff.1 hx
      rw [R_step (t := 6) h1 (by rw [hst _ (fun e => hd e h1), hdot h1, if_neg (by decide), if_pos h2]; rfl), R6]
      rfl
    | false =>
      rw [R_stop, ha]
      · rfl
      · intro x
        have e : isExp (g q) = false := by
          rw [Bool.eq_false_iff]; intro e
          have := tExp_iff.2 ⟨x.1, e⟩
          rw [hx] at this; simp at this
        have h2 := x.2
        rw [hst _ (fun e => hd e x.1), hdot x.1, e] at h2
        simp at h2

theorem R3 (g : Nat → Int) (n p : Nat) : R g n 3 p = tailF g n (skipD g n p) := by
  rw [R_skip g n 3 (fun c h => by simp [stepP, step3, h]) _ p rfl]
  have he := skip_end g n _ p rfl
  exact R_tail g n 3 _ (.inr rfl) fun _ hp => notDig fun x => he ⟨hp, x⟩

theorem R2 (g : Nat → Int) (n p : Nat) : R g n 2 p = tailF g n p := R_tail g n 2 p (.inl rfl) fun h => by omega

theorem scan_tail (g : Nat → Int) (n i : Nat) : scan g n i = if (scanInt g n (scanSign g n i)).2 then tailF g n (scanInt g n (scanSign g n i)).1 else scanInt g n (scanSign g n i) := rfl

theorem tZero_iff {g : Nat → Int} {n p : Nat} : tZero g n p = true ↔ p < n ∧ (g p == 48) = true := by
  rw [tZero, has_iff]; simp
theorem tNine_iff {g : Nat → Int} {n p : Nat} : tNine g n p = true ↔ p < n ∧ 49 ≤ g p ∧ g p ≤ 57 := by
  rw [tNine, has_iff]; simp
theorem tSign_iff {g : Nat → Int} {n p : Nat} : tSign g n p = true ↔ p < n ∧ (g p == 45) = true := by
  rw [tSign, has_iff]; simp

/-- at the whole part, behind a sign or none -/
theorem R01 (g : Nat → Int) (n s p : Nat) (hs : s = 0 ∨ s = 1) (h45 : s = 0 → p < n → (g p == 45) = false) :
    R g n s p = if (scanInt g n p).2 then tailF g n (scanInt g n p).1 else scanInt g n p := by
  have hst : ∀ c, (s = 0 → (c == 45) = false) → stepP s c = if (c == 48) = true then 2 else if isDig c = true then 3 else -1 := by
    intro c hc
    rcases hs with rfl | rfl
    · show step0 c = _
      rw [step0, hc rfl, if_neg (by decide)]
    · rfl
  have ha : acc s = false := by rcases hs with rfl | rfl <;> rfl
  unfold scanInt
  cases hz : tZero g n p with
  | true =>
    obtain ⟨h1, h2⟩ := tZero_iff.1 hz
    rw [R_step (t := 2) h1 (by rw [hst _ (fun e => h45 e h1), if_pos h2]; rfl), R2]
    rfl
  | false =>
    have h0 : p < n → (g p == 48) = false := fun hp => by
      rw [Bool.eq_false_iff]; intro e
      have := tZero_iff.2 ⟨hp, e⟩
      rw [hz] at this; simp at this
    cases hn : tNine g n p with
    | true =>
      obtain ⟨h1, h2⟩ := tNine_iff.1 hn
      have hsk := skipD_step h1 (by omega) h2.2
      rw [R_step (t := 3) h1 (by rw [hst _ (fun e => h45 e h1), h0 h1, if_neg (by decide), if_pos (isDig_iff.2 (by omega))]; rfl), R3, ← hsk]
      rfl
    | false =>
      rw [R_stop, ha]
      · rfl
      · intro x
        have e0 := h0 x.1
        have e : isDig (g p) = false := notDig fun y => by
          simp at e0
          have := tNine_iff.2 ⟨x.1, by omega, y.2⟩
          rw [hn] at this; simp at this
        have h2 := x.2
        rw [hst _ (fun e => h45 e x.1), e0, e] at h2
        simp at h2

theorem auto_scan (g : Nat → Int) (n i : Nat) : R g n 0 i = scan g n i := by
  rw [scan_tail]
  cases ht : tSign g n i with
  | true =>
    obtain ⟨h1, h2⟩ := tSign_iff.1 ht
    have e : scanSign g n i = i + 1 := by unfold scanSign; rw [ht]; rfl
    rw [R_step (t := 1) h1 (by show step0 _ = _; rw [step0, if_pos h2]; rfl), e, R01 g n 1 (i + 1) (.inr rfl) (fun h => by omega)]
  | false =>
    have e : scanSign g n i = i := by unfold scanSign; rw [ht]; rfl
    rw [e]
    exact R01 g n 0 i (.inl rfl) fun _ hp => by
      rw [Bool.eq_false_iff]; intro e
      have := tSign_iff.2 ⟨hp, e⟩
      rw [ht] at this; simp at this

end Go.Proofs.Qxb6602279a.Plain
