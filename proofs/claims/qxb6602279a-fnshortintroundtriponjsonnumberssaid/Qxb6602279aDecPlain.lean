/-
  PLAIN FUNCTIONS AND LAWS: decimal digits. No Go here.
-/
namespace Go.Proofs.Qxb6602279a.Plain

def isDig (c : Int) : Bool := decide (48 ≤ c) && decide (c ≤ 57)
theorem isDig_iff {c : Int} : isDig c = true ↔ 48 ≤ c ∧ c ≤ 57 := by simp [isDig]

/-- the value of the first k digits -/
def val (d : Nat → Int) : Nat → Int
  | 0 => 0
  | k + 1 => val d k * 10 + (d k - 48)

/-- the first k bytes are digits -/
def allDig (d : Nat → Int) : Nat → Bool
  | 0 => true
  | k + 1 => allDig d k && isDig (d k)

theorem allDig_at {d : Nat → Int} : ∀ {k j}, allDig d k = true → j < k → 48 ≤ d j ∧ d j ≤ 57
  | 0, j, _, hj => by omega
  | k + 1, j, h, hj => by
    simp [allDig] at h
    by_cases e : j = k
    · rw [e]; exact isDig_iff.1 h.2
    · exact allDig_at h.1 (by omega)

theorem allDig_of {d : Nat → Int} : ∀ {k}, (∀ j, j < k → 48 ≤ d j ∧ d j ≤ 57) → allDig d k = true
  | 0, _ => rfl
  | k + 1, h => by
    rw [allDig, allDig_of (fun j hj => h j (by omega)), isDig_iff.2 (h k (by omega))]; rfl

theorem allDig_le {d : Nat → Int} {j k : Nat} (hj : j ≤ k) (h : allDig d k = true) : allDig d j = true :=
  allDig_of fun _ hi => allDig_at h (by omega)

theorem allDig_no {d : Nat → Int} {j k : Nat} (hj : j < k) (h : ¬ (48 ≤ d j ∧ d j ≤ 57)) : allDig d k = false := by
  rw [Bool.eq_false_iff]
  intro e
  exact h (allDig_at e hj)

theorem val_bd (d : Nat → Int) : ∀ k, (∀ j, j < k → 48 ≤ d j ∧ d j ≤ 57) → 0 ≤ val d k ∧ val d k < 10 ^ k
  | 0, _ => by simp [val]
  | k + 1, h => by
    have ih := val_bd d k (fun j hj => h j (by omega))
    have hk := h k (by omega)
    have e : (10 : Int) ^ (k + 1) = 10 ^ k * 10 := Int.pow_succ 10 k
    rw [val, e]
    omega

theorem pow_le (k : Nat) (h : k ≤ 18) : (10 : Int) ^ k ≤ 1000000000000000000 := by
  have h1 : (10 : Nat) ^ k ≤ 10 ^ 18 := Nat.pow_le_pow_right (by decide) h
  have h2 : ((10 ^ k : Nat) : Int) ≤ ((10 ^ 18 : Nat) : Int) := Int.ofNat_le.2 h1
  have e : ((10 ^ 18 : Nat) : Int) = 1000000000000000000 := by decide
  rw [e] at h2
  simpa using h2

theorem val_lim {d : Nat → Int} {k : Nat} (hk : k ≤ 18) (h : allDig d k = true) : 0 ≤ val d k ∧ val d k < 1000000000000000000 := by
  have h1 := val_bd d k (fun j hj => allDig_at h hj)
  have h2 := pow_le k hk
  omega

theorem val_congr {d e : Nat → Int} : ∀ {k}, (∀ j, j < k → d j = e j) → val d k = val e k
  | 0, _ => rfl
  | k + 1, h => by rw [val, val, val_congr (fun j hj => h j (by omega)), h k (by omega)]

theorem val_zeros {d : Nat → Int} : ∀ {k}, (∀ j, j < k → d j = 48) → val d k = 0
  | 0, _ => rfl
  | k + 1, h => by rw [val, val_zeros (fun j hj => h j (by omega)), h k (by omega)]; rfl

/-- leading zeros count for nothing -/
theorem val_drop {d : Nat → Int} {z : Nat} (hz : ∀ j, j < z → d j = 48) : ∀ m, val d (z + m) = val (fun j => d (z + j)) m
  | 0 => val_zeros hz
  | m + 1 => by
    show val d (z + m) * 10 + (d (z + m) - 48) = val (fun j => d (z + j)) m * 10 + (d (z + m) - 48)
    rw [val_drop hz m]

theorem val_pos {d : Nat → Int} (h0 : 48 < d 0) : ∀ k, (∀ j, j < k + 1 → 48 ≤ d j ∧ d j ≤ 57) → 0 < val d (k + 1)
  | 0, _ => by simp [val]; omega
  | k + 1, h => by
    have ih := val_pos h0 k (fun j hj => h j (by omega))
    have hk := h (k + 1) (by omega)
    rw [val]
    omega

theorem val_div {d : Nat → Int} {k : Nat} (h : 48 ≤ d k ∧ d k ≤ 57) : val d (k + 1) / 10 = val d k ∧ val d (k + 1) % 10 = d k - 48 := by
  rw [val]
  omega

end Go.Proofs.Qxb6602279a.Plain
