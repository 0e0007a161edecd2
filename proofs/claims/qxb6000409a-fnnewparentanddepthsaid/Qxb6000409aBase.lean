import Derived.Test.Qxb6000409aRows
import Derived.WalkKit
import Derived.WalkSpells
import Derived.WalkLawsBesides
namespace Go.Proofs.Qxb6000409a
open Go.RowKit

/-- the first n cells from a on are the strings G 0, G 1, .. -/
def SSeg (w : World) (a : Option Addr) (n : Nat) (G : Nat → ByteArray) : Prop :=
  n = 0 ∨ ∃ b off, a = some ⟨b, off, none⟩ ∧ ∀ j, j < n → w.cell? ⟨b, off + j, none⟩ = some (.string (G j))

theorem SSeg.at {w : World} {a : Option Addr} {n : Nat} {G : Nat → ByteArray} (h : SSeg w a n G) {k : Nat} (hk : k < n) : ∃ b off, a = some ⟨b, off, none⟩ ∧ ∀ j, j < n → w.cell? ⟨b, off + j, none⟩ = some (.string (G j)) := by
  rcases h with h | h
  · omega
  · exact h
theorem SSeg.later {w w' : World} {a : Option Addr} {n : Nat} {G : Nat → ByteArray} (h : SSeg w a n G) (hb : Below w.heap.size w w') : SSeg w' a n G := by
  rcases h with h | ⟨b, off, e, h⟩
  · exact .inl h
  · exact .inr ⟨b, off, e, fun j hj => cell_later hb (h j hj)⟩

theorem str_eq {s t : ByteArray} : (s.toList == t.toList) = true ↔ s = t := by
  rw [beq_iff_eq, ByteArray.toList_eq, ByteArray.toList_eq]
  constructor
  · intro h; exact ByteArray.ext (Array.toList_inj.1 h)
  · intro h; rw [h]
theorem str_ne {s t : ByteArray} : (s.toList == t.toList) = false ↔ s ≠ t := by
  rw [Bool.eq_false_iff, ne_eq, str_eq]

set_option maxHeartbeats 400000 in
theorem indexOf_any (a : Option Addr) (n c : Nat) (G : Nat → ByteArray) (s : ByteArray) (w : World) (hn : n ≤ 1048576) (hs : SSeg w a n G) :
    Calls Try.prog 21 #[.slice a n c, .string s] w fun e w' => ∃ r : Int, e = .returned (.int .i64 r) ∧ w' = w ∧ ((r = -1 ∧ ∀ j, j < n → G j ≠ s) ∨ ∃ k : Nat, k < n ∧ r = k ∧ G k = s) := by
  go_enter Try.func21, Try.ntmps21
  go_wp2
  go_loop [5] (fun i => ∃ k : Nat, k ≤ n ∧ i = .int .i64 k ∧ Hid (∀ j, j < k → G j ≠ s)) (fun i => n - (intOf i).toNat)
  case atStart => exact ⟨0, by omega, rfl, fun j hj => by omega⟩
  case round =>
    obtain ⟨k, hk, rfl, HN⟩ := hrel
    by_cases hlt : k < n
    · obtain ⟨b, off, rfl, hcs⟩ := hs.at hlt
      have hcell := hcs k hlt
      clear hcs hs
      cases he : ((G k).toList == s.toList) with
      | true =>
        have HE : Hid (G k = s) := str_eq.1 he
        go_wp2
        go_ret
        exact ⟨_, rfl, rfl, .inr ⟨k, hlt, rfl, HE.out⟩⟩
      | false =>
        have HE : Hid (G k ≠ s) := str_ne.1 he
        go_wp2
        go_round
        case rel => exact ⟨k + 1, by omega, by go_num, fun j hj => by
            by_cases e : j = k
            · rw [e]; exact HE.out
            · exact HN.out j (by omega)⟩
        case measure => simp [intOf]; omega
    · go_wp2
      go_ret
      exact ⟨-1, rfl, rfl, .inl ⟨rfl, fun j hj => HN.out j (by omega)⟩⟩

set_option maxHeartbeats 400000 in
theorem bytesOf_any (a : Option Addr) (n c : Nat) (G : Nat → ByteArray) (w : World) (hn : n ≤ 1048576) (hG : ∀ j, (G j).size ≤ maxLen) (hs : SSeg w a n G) :
    Calls Try.prog 11 #[.slice a n c] w fun e w' => ∃ t : Int, e = .returned (.int .i64 t) ∧ w' = w ∧ 0 ≤ t ∧ t ≤ 1048577 := by
  go_enter Try.func11, Try.ntmps11
  go_wp2
  go_loop [3, 4] (fun v i => ∃ k : Nat, k ≤ n ∧ i = .int .i64 k ∧ ∃ t : Int, 0 ≤ t ∧ t ≤ 1048576 ∧ v = .int .i64 t) (fun _ i => n - (intOf i).toNat)
  case atStart => exact ⟨0, by omega, rfl, 0, by omega, by omega, rfl⟩
  case round =>
    obtain ⟨k, hk, rfl, t, t0, t1, rfl⟩ := hrel
    by_cases hlt : k < n
    · obtain ⟨b, off, rfl, hcs⟩ := hs.at hlt
      have hcell := hcs k hlt
      have hz := hG k
      unfold maxLen at hz
      clear hcs hs
      by_cases hbig : 1048576 < (G k).size
      · go_wp2
        go_ret
        exact ⟨_, rfl, rfl, by omega, by omega⟩
      · by_cases hsum : 1048576 < t + (16 + ((G k).size : Int))
        · go_wp2
          go_ret
          exact ⟨_, rfl, rfl, by omega, by omega⟩
        · go_wp2
          go_round
          case rel => exact ⟨k + 1, by omega, by go_num, _, by omega, by omega, rfl⟩
          case measure => simp [intOf]; omega
    · go_wp2
      go_ret
      exact ⟨_, rfl, rfl, t0, by omega⟩

/-- a bool came back -/
def SomeBool (e : Ending) : Prop := ∃ b : Bool, e = .returned (.bool b)

set_option maxHeartbeats 1000000 in
theorem zz_any (a a' : Option Addr) (n c n' c' : Nat) (G P : Nat → ByteArray) (w : World) (hn : n ≤ maxLen) (hn' : n' ≤ maxLen) (hG : ∀ j, (G j).size ≤ maxLen) (hP : ∀ j, (P j).size ≤ maxLen) (hs : SSeg w a n G) (hs' : SSeg w a' n' P) :
    Calls Try.prog 10 #[.slice a n c, .slice a' n' c'] w fun e w' => SomeBool e ∧ w' = w := by
  unfold maxLen at hn hn'
  by_cases h1 : 1048576 < n
  · go_enter Try.func10, Try.ntmps10
    go_wp2
    go_ret
    exact ⟨⟨_, rfl⟩, rfl⟩
  go_enter Try.func10, Try.ntmps10
  go_wp2
  go_loop [5, 6] (fun v i => ∃ k : Nat, k ≤ n ∧ i = .int .i64 k ∧ ∃ t : Int, 0 ≤ t ∧ t ≤ 1048576 ∧ v = .int .i64 t) (fun _ i => n - (intOf i).toNat)
  case atStart => exact ⟨0, by omega, rfl, (n : Int), by omega, by omega, rfl⟩
  case round =>
    obtain ⟨k, hk, rfl, t, t0, t1, rfl⟩ := hrel
    by_cases hlt : k < n
    · obtain ⟨b, off, rfl, hcs⟩ := hs.at hlt
      have hcell := hcs k hlt
      have hz := hG k
      unfold maxLen at hz
      clear hcs hs
      by_cases hbig : 1048576 < (G k).size
      · go_wp2
        go_ret
        exact ⟨⟨_, rfl⟩, rfl⟩
      · by_cases hsum : 1048576 < t + ((G k).size : Int)
        · go_wp2
          go_ret
          exact ⟨⟨_, rfl⟩, rfl⟩
        · go_wp2
          go_round
          case rel => exact ⟨k + 1, by omega, by go_num, _, by omega, by omega, rfl⟩
          case measure => simp [intOf]; omega
    · by_cases h2 : 1048576 < n'
      · go_wp2
        go_ret
        exact ⟨⟨_, rfl⟩, rfl⟩
      · by_cases h3 : 1048576 < t + (n' : Int)
        · go_wp2
          go_ret
          exact ⟨⟨_, rfl⟩, rfl⟩
        · go_wp2
          go_loop [5, 7] (fun v i => ∃ k : Nat, k ≤ n' ∧ i = .int .i64 k ∧ ∃ t : Int, 0 ≤ t ∧ t ≤ 1048576 ∧ v = .int .i64 t) (fun _ i => n' - (intOf i).toNat)
          case atStart => exact ⟨0, by omega, rfl, t + (n' : Int), by omega, by omega, rfl⟩
          case round =>
            clear t0 t1 h3
            obtain ⟨k2, hk2, rfl, t2, t0, t1, rfl⟩ := hrel
            by_cases hlt2 : k2 < n'
            · obtain ⟨b', off', rfl, hcs⟩ := hs'.at hlt2
              have hcell := hcs k2 hlt2
              have hz := hP k2
              unfold maxLen at hz
              clear hcs hs'
              by_cases hbig : 1048576 < (P k2).size
              · go_wp2
                go_ret
                exact ⟨⟨_, rfl⟩, rfl⟩
              · by_cases hsum : 1048576 < t2 + ((P k2).size : Int)
                · go_wp2
                  go_ret
                  exact ⟨⟨_, rfl⟩, rfl⟩
                · go_wp2
                  go_round
                  case rel => exact ⟨k2 + 1, by omega, by go_num, _, by omega, by omega, rfl⟩
                  case measure => simp [intOf]; omega
            · go_wp2
              go_ret
              exact ⟨⟨_, rfl⟩, rfl⟩

end Go.Proofs.Qxb6000409a
