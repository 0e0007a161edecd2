/-
  PLAIN FUNCTIONS AND LAWS: scanning a JSON number. No Go here: 'g' gives the byte at an index, 'n' is the length.
-/
namespace Go.Proofs.Qxb6602279a.Plain

/-- so many rounds of 'skipDigits' at most, from index i on -/
def skip (g : Nat → Int) (n : Nat) : Nat → Nat → Nat
  | 0, i => i
  | f + 1, i => if i < n ∧ 48 ≤ g i ∧ g i ≤ 57 then skip g n f (i + 1) else i

def skipD (g : Nat → Int) (n i : Nat) : Nat := skip g n (n - i) i

theorem skipD_step {g : Nat → Int} {n i : Nat} (h : i < n) (h1 : 48 ≤ g i) (h2 : g i ≤ 57) : skipD g n i = skipD g n (i + 1) := by
  unfold skipD
  obtain ⟨f, hf⟩ : ∃ f, n - i = f + 1 := ⟨n - i - 1, by omega⟩
  have hf' : n - (i + 1) = f := by omega
  rw [hf, hf', skip, if_pos ⟨h, h1, h2⟩]

theorem skipD_stop {g : Nat → Int} {n i : Nat} (h : ¬ (i < n ∧ 48 ≤ g i ∧ g i ≤ 57)) : skipD g n i = i := by
  unfold skipD
  match n - i with
  | 0 => rfl
  | f + 1 => rw [skip, if_neg h]

theorem skip_bd (g : Nat → Int) (n : Nat) : ∀ f i, i ≤ skip g n f i ∧ (i ≤ n → skip g n f i ≤ n) ∧ (n ≤ i → skip g n f i = i)
  | 0, i => by simp [skip]
  | f + 1, i => by
    rw [skip]
    split
    · have := skip_bd g n f (i + 1)
      omega
    · omega

theorem skipD_bd (g : Nat → Int) (n i : Nat) : i ≤ skipD g n i ∧ (i ≤ n → skipD g n i ≤ n) ∧ (n ≤ i → skipD g n i = i) := skip_bd g n _ i

theorem skip_shift (g : Nat → Int) (n d : Nat) (hd : d ≤ n) : ∀ f i, skip g n f (d + i) = d + skip (fun j => g (d + j)) (n - d) f i
  | 0, i => rfl
  | f + 1, i => by
    rw [skip, skip]
    have e : (d + i < n ∧ 48 ≤ g (d + i) ∧ g (d + i) ≤ 57) ↔ (i < n - d ∧ 48 ≤ g (d + i) ∧ g (d + i) ≤ 57) := by omega
    by_cases h : d + i < n ∧ 48 ≤ g (d + i) ∧ g (d + i) ≤ 57
    · rw [if_pos h, if_pos (e.1 h), ← skip_shift g n d hd f (i + 1)]; rfl
    · rw [if_neg h, if_neg (fun x => h (e.2 x))]

theorem skipD_shift (g : Nat → Int) (n d i : Nat) (hd : d ≤ n) : skipD g n (d + i) = d + skipD (fun j => g (d + j)) (n - d) i := by
  unfold skipD
  rw [show n - (d + i) = n - d - i by omega]
  exact skip_shift g n d hd _ i

/-! ### scanNumber, stage by stage -/
/-- a byte at j that passes the test p -/
def has (g : Nat → Int) (n j : Nat) (p : Int → Bool) : Bool := decide (j < n) && p (g j)
def tSign (g : Nat → Int) (n j : Nat) : Bool := has g n j (fun x => decide (x = 45))
def tZero (g : Nat → Int) (n j : Nat) : Bool := has g n j (fun x => decide (x = 48))
def tNine (g : Nat → Int) (n j : Nat) : Bool := has g n j (fun x => decide (49 ≤ x ∧ x ≤ 57))
def tDot (g : Nat → Int) (n j : Nat) : Bool := has g n j (fun x => decide (x = 46))
def tExp (g : Nat → Int) (n j : Nat) : Bool := has g n j (fun x => decide (x = 101 ∨ x = 69))
def tPM (g : Nat → Int) (n j : Nat) : Bool := has g n j (fun x => decide (x = 43 ∨ x = 45))

theorem has_yes {g : Nat → Int} {n j : Nat} {p : Int → Bool} (h : j < n) (hp : p (g j) = true) : has g n j p = true := by simp [has, h, hp]
theorem has_no {g : Nat → Int} {n j : Nat} {p : Int → Bool} (hp : p (g j) = false) : has g n j p = false := by simp [has, hp]
theorem has_out {g : Nat → Int} {n j : Nat} {p : Int → Bool} (h : ¬ j < n) : has g n j p = false := by simp [has, h]
theorem has_iff {g : Nat → Int} {n j : Nat} {p : Int → Bool} : has g n j p = true ↔ j < n ∧ p (g j) = true := by simp [has]

def scanSign (g : Nat → Int) (n i : Nat) : Nat := if tSign g n i then i + 1 else i

def scanInt (g : Nat → Int) (n j : Nat) : Nat × Bool :=
  if tZero g n j then (j + 1, true) else if tNine g n j then (skipD g n j, true) else (j, false)

def scanFrac (g : Nat → Int) (n j : Nat) : Nat × Bool :=
  if tDot g n j then (skipD g n (j + 1), decide (j + 1 < skipD g n (j + 1))) else (j, true)

def scanPM (g : Nat → Int) (n j : Nat) : Nat := if tPM g n j then j + 1 else j

def scanExp (g : Nat → Int) (n j : Nat) : Nat × Bool :=
  if tExp g n j then (skipD g n (scanPM g n (j + 1)), decide (scanPM g n (j + 1) < skipD g n (scanPM g n (j + 1)))) else (j, true)

def scan (g : Nat → Int) (n i : Nat) : Nat × Bool :=
  let s := scanInt g n (scanSign g n i)
  if s.2 then
    let f := scanFrac g n s.1
    if f.2 then scanExp g n f.1 else f
  else s

theorem scanInt_zero {g : Nat → Int} {n j : Nat} (h : j < n) (h2 : g j = 48) : scanInt g n j = (j + 1, true) := by
  have : tZero g n j = true := has_yes h (by simpa using h2)
  simp [scanInt, this]
theorem scanInt_nine {g : Nat → Int} {n j : Nat} (h : j < n) (h2 : 49 ≤ g j) (h3 : g j ≤ 57) : scanInt g n j = (skipD g n j, true) := by
  have e1 : tZero g n j = false := has_no (by simp; omega)
  have e2 : tNine g n j = true := has_yes h (by simp; omega)
  simp [scanInt, e1, e2]
theorem scanInt_no {g : Nat → Int} {n j : Nat} (h : ¬ (j < n ∧ g j = 48)) (h2 : ¬ (j < n ∧ 49 ≤ g j ∧ g j ≤ 57)) : scanInt g n j = (j, false) := by
  have e1 : tZero g n j = false := by
    rw [Bool.eq_false_iff]; intro e; rw [tZero, has_iff] at e; exact h ⟨e.1, by simpa using e.2⟩
  have e2 : tNine g n j = false := by
    rw [Bool.eq_false_iff]; intro e; rw [tNine, has_iff] at e; exact h2 ⟨e.1, by simpa using e.2⟩
  simp [scanInt, e1, e2]

theorem scanInt_bd {g : Nat → Int} {n j : Nat} (h : (scanInt g n j).2 = true) : j < (scanInt g n j).1 ∧ (scanInt g n j).1 ≤ n := by
  unfold scanInt at h ⊢
  by_cases h1 : tZero g n j = true
  · have := (has_iff.1 h1).1
    rw [if_pos h1]; simp; omega
  · rw [if_neg h1] at h ⊢
    by_cases h2 : tNine g n j = true
    · rw [if_pos h2]
      obtain ⟨a, b⟩ := has_iff.1 h2
      simp at b
      have hs := skipD_step (g := g) a (by omega) b.2
      have hb := skipD_bd g n (j + 1)
      simp only; rw [hs]; omega
    · rw [if_neg h2] at h; simp at h

theorem scanFrac_bd {g : Nat → Int} {n j : Nat} (h : j ≤ n) : j ≤ (scanFrac g n j).1 ∧ (scanFrac g n j).1 ≤ n := by
  unfold scanFrac
  split
  · have := (has_iff.1 ‹_›).1
    have hb := skipD_bd g n (j + 1)
    simp only; omega
  · simp only; omega

theorem scanPM_bd {g : Nat → Int} {n j : Nat} (h : j ≤ n) : j ≤ scanPM g n j ∧ scanPM g n j ≤ n := by
  unfold scanPM
  split
  · have := (has_iff.1 ‹_›).1
    omega
  · omega

theorem scanExp_bd {g : Nat → Int} {n j : Nat} (h : j ≤ n) : j ≤ (scanExp g n j).1 ∧ (scanExp g n j).1 ≤ n := by
  unfold scanExp
  split
  · have := (has_iff.1 ‹_›).1
    have hp := scanPM_bd (g := g) (n := n) (j := j + 1) (by omega)
    have hb := skipD_bd g n (scanPM g n (j + 1))
    simp only; omega
  · simp only; omega

theorem scanInt_bd' {g : Nat → Int} {n j : Nat} (h : j ≤ n) : j ≤ (scanInt g n j).1 ∧ (scanInt g n j).1 ≤ n := by
  by_cases h2 : (scanInt g n j).2 = true
  · have := scanInt_bd h2; omega
  · unfold scanInt at h2 ⊢
    split
    · rename_i h3; rw [if_pos h3] at h2; simp at h2
    · rename_i h3; rw [if_neg h3] at h2
      split
      · rename_i h4; rw [if_pos h4] at h2; simp at h2
      · simp; omega

theorem scanSign_bd {g : Nat → Int} {n j : Nat} (h : j ≤ n) : j ≤ scanSign g n j ∧ scanSign g n j ≤ n := by
  unfold scanSign
  split
  · have := (has_iff.1 ‹_›).1
    omega
  · omega

theorem scan_nil (g : Nat → Int) (i : Nat) : scan g 0 i = (i, false) := by
  have h : ∀ j p, has g 0 j p = false := fun j p => has_out (by omega)
  simp [scan, scanSign, scanInt, tSign, tZero, tNine, h]

theorem scan_noInt {g : Nat → Int} {n i : Nat} (h : (scanInt g n (scanSign g n i)).2 = false) : scan g n i = scanInt g n (scanSign g n i) := by
  unfold scan; simp [h]

theorem scan_noFrac {g : Nat → Int} {n i : Nat} (h : (scanInt g n (scanSign g n i)).2 = true) (h2 : (scanFrac g n (scanInt g n (scanSign g n i)).1).2 = false) :
    scan g n i = scanFrac g n (scanInt g n (scanSign g n i)).1 := by
  unfold scan; simp [h, h2]

theorem scan_exp {g : Nat → Int} {n i : Nat} (h : (scanInt g n (scanSign g n i)).2 = true) (h2 : (scanFrac g n (scanInt g n (scanSign g n i)).1).2 = true) :
    scan g n i = scanExp g n (scanFrac g n (scanInt g n (scanSign g n i)).1).1 := by
  unfold scan; simp [h, h2]

/-! ### bounds, and the shift law -/
theorem scan_bd {g : Nat → Int} {n i : Nat} (h : i ≤ n) : i ≤ (scan g n i).1 ∧ (scan g n i).1 ≤ n ∧ ((scan g n i).2 = true → i < (scan g n i).1) := by
  have h1 := scanSign_bd (g := g) h
  have h2 := scanInt_bd' (g := g) h1.2
  by_cases hI : (scanInt g n (scanSign g n i)).2 = true
  · have h2' := scanInt_bd hI
    have h3 := scanFrac_bd (g := g) h2.2
    by_cases hF : (scanFrac g n (scanInt g n (scanSign g n i)).1).2 = true
    · rw [scan_exp hI hF]
      have h4 := scanExp_bd (g := g) h3.2
      exact ⟨by omega, by omega, fun _ => by omega⟩
    · rw [scan_noFrac hI (by simpa using hF)]
      exact ⟨by omega, by omega, fun hh => absurd hh hF⟩
  · rw [scan_noInt (by simpa using hI)]
    exact ⟨by omega, by omega, fun hh => absurd hh hI⟩

theorem has_shift (g : Nat → Int) (n d j : Nat) (p : Int → Bool) (hd : d ≤ n) : has g n (d + j) p = has (fun k => g (d + k)) (n - d) j p := by
  unfold has
  congr 1
  rw [decide_eq_decide]
  omega

theorem scanSign_shift (g : Nat → Int) (n d j : Nat) (hd : d ≤ n) : scanSign g n (d + j) = d + scanSign (fun k => g (d + k)) (n - d) j := by
  unfold scanSign tSign
  rw [has_shift g n d j _ hd]
  split <;> rfl

theorem scanInt_shift (g : Nat → Int) (n d j : Nat) (hd : d ≤ n) : scanInt g n (d + j) = (d + (scanInt (fun k => g (d + k)) (n - d) j).1, (scanInt (fun k => g (d + k)) (n - d) j).2) := by
  unfold scanInt tZero tNine
  rw [has_shift g n d j _ hd, has_shift g n d j _ hd, skipD_shift g n d j hd]
  split
  · rfl
  · split <;> rfl

theorem scanFrac_shift (g : Nat → Int) (n d j : Nat) (hd : d ≤ n) : scanFrac g n (d + j) = (d + (scanFrac (fun k => g (d + k)) (n - d) j).1, (scanFrac (fun k => g (d + k)) (n - d) j).2) := by
  unfold scanFrac tDot
  rw [has_shift g n d j _ hd, show d + j + 1 = d + (j + 1) from rfl, skipD_shift g n d (j + 1) hd]
  split
  · simp
  · rfl

theorem scanPM_shift (g : Nat → Int) (n d j : Nat) (hd : d ≤ n) : scanPM g n (d + j) = d + scanPM (fun k => g (d + k)) (n - d) j := by
  unfold scanPM tPM
  rw [has_shift g n d j _ hd]
  split <;> rfl

theorem scanExp_shift (g : Nat → Int) (n d j : Nat) (hd : d ≤ n) : scanExp g n (d + j) = (d + (scanExp (fun k => g (d + k)) (n - d) j).1, (scanExp (fun k => g (d + k)) (n - d) j).2) := by
  unfold scanExp tExp
  rw [has_shift g n d j _ hd, show d + j + 1 = d + (j + 1) from rfl, scanPM_shift g n d (j + 1) hd, skipD_shift g n d _ hd]
  split
  · simp
  · rfl

theorem scan_shift (g : Nat → Int) (n d j : Nat) (hd : d ≤ n) : scan g n (d + j) = (d + (scan (fun k => g (d + k)) (n - d) j).1, (scan (fun k => g (d + k)) (n - d) j).2) := by
  unfold scan
  simp only
  rw [scanSign_shift g n d j hd, scanInt_shift g n d _ hd]
  simp only
  split
  · rw [scanFrac_shift g n d _ hd]
    simp only
    split
    · rw [scanExp_shift g n d _ hd]
    · rfl
  · rfl

end Go.Proofs.Qxb6602279a.Plain
