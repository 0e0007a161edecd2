/-
  PLAIN: groups that hang from parents; the steps up to the root. No Go here.
-/
namespace Go.Proofs.Qxb6000409a.Plain

/-- one step up; the root's parent is -1, and stays there -/
def nx (pf : Nat → Int) (a : Int) : Int := if a = -1 then -1 else pf a.toNat
/-- t steps up -/
def it (pf : Nat → Int) (a : Int) : Nat → Int
  | 0 => a
  | t + 1 => nx pf (it pf a t)

theorem it_succ (pf : Nat → Int) (a : Int) : ∀ t, it pf a (t + 1) = it pf (nx pf a) t
  | 0 => rfl
  | t + 1 => by
    show nx pf (it pf a (t + 1)) = nx pf (it pf (nx pf a) t)
    rw [it_succ pf a t]

/-- how many steps till -1, so many looked at -/
def hitF (pf : Nat → Int) : Nat → Int → Nat
  | 0, _ => 0
  | f + 1, a => if a = -1 then 0 else hitF pf f (nx pf a) + 1

theorem hit_eq (pf : Nat → Int) : ∀ (t f : Nat) (a : Int), t < f → it pf a t = -1 → (∀ u, u < t → it pf a u ≠ -1) → hitF pf f a = t
  | 0, f + 1, a, _, h, _ => by
    have : a = -1 := h
    simp [hitF, this]
  | t + 1, f + 1, a, hf, h, hn => by
    have h0 : a ≠ -1 := hn 0 (by omega)
    rw [hitF, if_neg h0, hit_eq pf t f (nx pf a) (by omega) (by rw [← it_succ]; exact h) (fun u hu => by rw [← it_succ]; exact hn (u + 1) (by omega))]

/-- what the checks of the index have found of the first k groups -/
def SeenK (n : Nat) (G P : Nat → ByteArray) (pf : Nat → Int) (k : Nat) : Prop :=
  ∀ j, j < k → G j ≠ ByteArray.empty ∧ (∀ u, u < j → G u ≠ G j) ∧ ((P j = ByteArray.empty ∧ pf j = -1) ∨ (P j ≠ ByteArray.empty ∧ ∃ k' : Nat, k' < n ∧ pf j = k' ∧ G k' = P j))

/-- from group i the way up ends within n + 1 steps -/
def EndsK (n : Nat) (pf : Nat → Int) (i : Nat) : Prop := ∃ t, t ≤ n + 1 ∧ it pf i t = -1 ∧ ∀ u, u < t → it pf i u ≠ -1

/-- one tree: distinct names, none empty; each hangs from a group or from nothing; 'dep' counts the steps -/
structure Tree (n : Nat) (G P : Nat → ByteArray) (pf : Nat → Int) (dep : Nat → Nat) : Prop where
  named : ∀ i, i < n → G i ≠ ByteArray.empty
  apart : ∀ i j, i < n → j < n → G i = G j → i = j
  hangs : ∀ i, i < n → (pf i = -1 ∧ P i = ByteArray.empty ∧ dep i = 0) ∨ ∃ k : Nat, k < n ∧ pf i = k ∧ P i = G k ∧ dep i = dep k + 1
  low : ∀ i, i < n → dep i ≤ n + 1

theorem tree_of {n : Nat} {G P : Nat → ByteArray} {pf : Nat → Int} (h1 : SeenK n G P pf n) (h2 : ∀ i, i < n → EndsK n pf i) : Tree n G P pf (fun i => hitF pf (n + 2) i - 1) := by
  have hne : ∀ i j, i < n → j < n → i < j → G i ≠ G j := fun i j _ hj hij => (h1 j hj).2.1 i hij
  have hneg : ∀ i : Nat, (i : Int) ≠ -1 := fun i => by omega
  refine ⟨fun i hi => (h1 i hi).1, fun i j hi hj e => ?_, fun i hi => ?_, fun i hi => ?_⟩
  · rcases Nat.lt_trichotomy i j with h | h | h
    · exact absurd e (hne i j hi hj h)
    · exact h
    · exact absurd e.symm (hne j i hj hi h)
  · obtain ⟨t, ht, e1, e2⟩ := h2 i hi
    have hh := hit_eq pf t (n + 2) i (by omega) e1 e2
    obtain ⟨s, rfl⟩ : ∃ s, t = s + 1 := by
      match t, e1 with
      | 0, e1 => exact absurd e1 (hneg i)
      | s + 1, _ => exact ⟨s, rfl⟩
    have hnx : nx pf i = pf i := by unfold nx; rw [if_neg (hneg i)]; simp
    rcases (h1 i hi).2.2 with ⟨hp, hf⟩ | ⟨_, k, hk, hf, hG⟩
    · refine .inl ⟨hf, hp, ?_⟩
      have : s = 0 := by
        match s, e2 with
        | 0, _ => rfl
        | s + 1, e2 =>
          have h3 := e2 1 (by omega)
          rw [show it pf (i : Int) 1 = nx pf i from rfl, hnx, hf] at h3
          exact absurd rfl h3
      show hitF pf (n + 2) i - 1 = 0
      rw [hh, this]
    · refine .inr ⟨k, hk, hf, hG.symm, ?_⟩
      have e1' : it pf (k : Int) s = -1 := by rw [← hf, ← hnx, ← it_succ]; exact e1
      have e2' : ∀ u, u < s → it pf (k : Int) u ≠ -1 := fun u hu => by rw [← hf, ← hnx, ← it_succ]; exact e2 (u + 1) (by omega)
      have hh' := hit_eq pf s (n + 2) k (by omega) e1' e2'
      have hs : s ≠ 0 := fun e => by subst e; exact hneg k e1'
      show hitF pf (n + 2) i - 1 = hitF pf (n + 2) k - 1 + 1
      rw [hh, hh']
      omega
  · obtain ⟨t, ht, e1, e2⟩ := h2 i hi
    have hh := hit_eq pf t (n + 2) i (by omega) e1 e2
    show hitF pf (n + 2) i - 1 ≤ n + 1
    omega

/-- what the map 'parent' answers after k groups -/
def parM (G P : Nat → ByteArray) : Nat → ByteArray → Option ByteArray
  | 0 => fun _ => none
  | k + 1 => fun s => if s = G k then some (P k) else parM G P k s
/-- what the map 'depth' answers after k groups -/
def depM (G : Nat → ByteArray) (dep : Nat → Nat) : Nat → ByteArray → Option Int
  | 0 => fun _ => none
  | k + 1 => fun s => if s = G k then some (dep k : Int) else depM G dep k s

theorem parM_at {n : Nat} {G P : Nat → ByteArray} (h : ∀ i j, i < n → j < n → G i = G j → i = j) : ∀ k, k ≤ n → ∀ i, i < k → parM G P k (G i) = some (P i)
  | 0, _, i, hi => by omega
  | k + 1, hk, i, hi => by
    show (if G i = G k then some (P k) else parM G P k (G i)) = _
    by_cases e : G i = G k
    · rw [if_pos e, h i k (by omega) (by omega) e]
    · rw [if_neg e]
      have : i ≠ k := fun q => e (by rw [q])
      exact parM_at h k (by omega) i (by omega)
theorem parM_none {G P : Nat → ByteArray} {s : ByteArray} : ∀ k, (∀ i, i < k → G i ≠ s) → parM G P k s = none
  | 0, _ => rfl
  | k + 1, h => by
    show (if s = G k then some (P k) else parM G P k s) = _
    rw [if_neg (fun e => h k (by omega) e.symm)]
    exact parM_none k (fun i hi => h i (by omega))
theorem depM_at {n : Nat} {G : Nat → ByteArray} {dep : Nat → Nat} (h : ∀ i j, i < n → j < n → G i = G j → i = j) : ∀ k, k ≤ n → ∀ i, i < k → depM G dep k (G i) = some (dep i : Int)
  | 0, _, i, hi => by omega
  | k + 1, hk, i, hi => by
    show (if G i = G k then some (dep k : Int) else depM G dep k (G i)) = _
    by_cases e : G i = G k
    · rw [if_pos e, h i k (by omega) (by omega) e]
    · rw [if_neg e]
      have : i ≠ k := fun q => e (by rw [q])
      exact depM_at h k (by omega) i (by omega)
theorem depM_none {G : Nat → ByteArray} {dep : Nat → Nat} {s : ByteArray} : ∀ k, (∀ i, i < k → G i ≠ s) → depM G dep k s = none
  | 0, _ => rfl
  | k + 1, h => by
    show (if s = G k then some (dep k : Int) else depM G dep k s) = _
    rw [if_neg (fun e => h k (by omega) e.symm)]
    exact depM_none k (fun i hi => h i (by omega))

end Go.Proofs.Qxb6000409a.Plain
