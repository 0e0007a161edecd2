/-
  PLAIN FUNCTIONS AND LAWS: hexadecimal digits. No Go here.
-/
namespace Go.Proofs.Qxb6602279a.Plain

/-- the value of a hexadecimal digit of either case; -1: none -/
def hv (c : Int) : Int := if 48 ≤ c ∧ c ≤ 57 then c - 48 else if 97 ≤ c ∧ c ≤ 102 then c - 87 else if 65 ≤ c ∧ c ≤ 70 then c - 55 else -1
def isHex (c : Int) : Bool := decide (0 ≤ hv c)
/-- lower case -/
def fold (c : Int) : Int := if 65 ≤ c ∧ c ≤ 90 then c + 32 else c
/-- the lower-case digit that writes v -/
def hexd (v : Int) : Int := if v < 10 then 48 + v else 87 + v

theorem isHex_iff (c : Int) : isHex c = true ↔ 0 ≤ hv c := by simp [isHex]
theorem hv_bd (c : Int) : -1 ≤ hv c ∧ hv c ≤ 15 := by unfold hv; omega
theorem fold_hexd {c : Int} (h : isHex c = true) : fold c = hexd (hv c) := by
  rw [isHex_iff] at h
  unfold hv at h ⊢; unfold fold hexd
  omega
theorem fold_no {c : Int} (h : isHex c = false) (k : Int) (h0 : 0 ≤ k) (h1 : k < 16) : hexd k ≠ fold c := by
  have h' : hv c < 0 := by
    have := isHex_iff c
    rw [h] at this
    simp at this; omega
  unfold hv at h'; unfold fold hexd
  omega
theorem fold_at {c : Int} (h : isHex c = true) (k : Int) (h0 : 0 ≤ k) (h1 : k < 16) : hexd k = fold c ↔ k = hv c := by
  rw [isHex_iff] at h
  unfold hv at h ⊢; unfold fold hexd
  omega

/-- the first k digits read as a number -/
def hexAcc (g : Nat → Int) : Nat → Int
  | 0 => 0
  | k + 1 => hexAcc g k * 16 + hv (g k)

/-- the first k bytes are hexadecimal digits -/
def allHex (g : Nat → Int) : Nat → Bool
  | 0 => true
  | k + 1 => allHex g k && isHex (g k)

theorem allHex_mono {g : Nat → Int} {j : Nat} : ∀ {k}, j ≤ k → allHex g k = true → allHex g j = true
  | 0, h, _ => by obtain rfl : j = 0 := by omega
                  rfl
  | k + 1, h, hk => by
    by_cases e : j = k + 1
    · rw [e]; exact hk
    · simp [allHex] at hk
      exact allHex_mono (by omega) hk.1

theorem hexAcc_bd (g : Nat → Int) (k : Nat) (hk : k ≤ 4) (h : allHex g k = true) : 0 ≤ hexAcc g k ∧ hexAcc g k < 16 ^ k := by
  match k, hk with
  | 0, _ => simp [hexAcc]
  | k + 1, hk =>
    simp [allHex, isHex_iff] at h
    have ih := hexAcc_bd g k (by omega) h.1
    have hb := hv_bd (g k)
    have e : (16 : Int) ^ (k + 1) = 16 ^ k * 16 := Int.pow_succ 16 k
    rw [hexAcc, e]
    omega

theorem hexAcc_4 (g : Nat → Int) : hexAcc g 4 = ((hv (g 0) * 16 + hv (g 1)) * 16 + hv (g 2)) * 16 + hv (g 3) := by
  simp [hexAcc]

theorem allHex_4 {g : Nat → Int} (h : allHex g 4 = true) (k : Nat) (hk : k < 4) : isHex (g k) = true := by
  simp [allHex] at h
  obtain ⟨⟨⟨a, b⟩, c⟩, d⟩ := h
  match k, hk with
  | 0, _ => exact a
  | 1, _ => exact b
  | 2, _ => exact c
  | 3, _ => exact d

/-- the k-th nibble -/
theorem nib {g : Nat → Int} (h : allHex g 4 = true) (k : Nat) (hk : k < 4) : hexAcc g 4 / 2 ^ (12 - 4 * k) % 16 = hv (g k) := by
  have a0 := (isHex_iff _).1 (allHex_4 h 0 (by omega))
  have a1 := (isHex_iff _).1 (allHex_4 h 1 (by omega))
  have a2 := (isHex_iff _).1 (allHex_4 h 2 (by omega))
  have a3 := (isHex_iff _).1 (allHex_4 h 3 (by omega))
  have b0 := hv_bd (g 0)
  have b1 := hv_bd (g 1)
  have b2 := hv_bd (g 2)
  have b3 := hv_bd (g 3)
  rw [hexAcc_4]
  match k, hk with
  | 0, _ => simp; omega
  | 1, _ => simp; omega
  | 2, _ => simp; omega
  | 3, _ => simp; omega

end Go.Proofs.Qxb6602279a.Plain
