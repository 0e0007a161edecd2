import Derived.Test.Qxb6000409aMaps
namespace Go.Proofs.Qxb6000409a
open Go.RowKit Go.Maps

theorem parent_any (b0 b1 b2 n : Nat) (m : ByteArray → Option ByteArray) (s : ByteArray) (w : World) (hs : s.size ≤ maxLen) (hS : SMap w b0 n m) :
    Calls Try.prog 14 #[.agg #[.map (some b0), .map (some b1), .map (some b2)], .string s] w fun e w' =>
      e = .returned (.tuple #[.string ((m s).getD ByteArray.empty), .bool (m s).isSome]) ∧ w' = w.alloc (.cells #[.map (some b0), .map (some b1), .map (some b2)] 32) := by
  have hl := (hS.later ((Below.refl _ w).alloc (Nat.le_refl _) (.cells #[.map (some b0), .map (some b1), .map (some b2)] 32))).look_ok hs
  obtain ⟨v, hv⟩ : ∃ v, v = (m s).getD ByteArray.empty := ⟨_, rfl⟩
  obtain ⟨ok, hok⟩ : ∃ ok, ok = (m s).isSome := ⟨_, rfl⟩
  rw [← hv, ← hok] at hl ⊢
  clear hv hok
  go_enter Try.func14, Try.ntmps14
  go_wp2
  go_ret2
  exact ⟨rfl, rfl⟩

theorem depth_any (b0 b1 b2 n : Nat) (m : ByteArray → Option Int) (s : ByteArray) (w : World) (hs : s.size ≤ maxLen) (hS : IMap w b2 n m) :
    Calls Try.prog 15 #[.agg #[.map (some b0), .map (some b1), .map (some b2)], .string s] w fun e w' =>
      e = .returned (.tuple #[.int .i64 ((m s).getD 0), .bool (m s).isSome]) ∧ w' = w.alloc (.cells #[.map (some b0), .map (some b1), .map (some b2)] 32) := by
  have hl := (hS.later ((Below.refl _ w).alloc (Nat.le_refl _) (.cells #[.map (some b0), .map (some b1), .map (some b2)] 32))).look_ok hs
  obtain ⟨v, hv⟩ : ∃ v, v = (m s).getD 0 := ⟨_, rfl⟩
  obtain ⟨ok, hok⟩ : ∃ ok, ok = (m s).isSome := ⟨_, rfl⟩
  rw [← hv, ← hok] at hl ⊢
  clear hv hok
  go_enter Try.func15, Try.ntmps15
  go_wp2
  go_ret2
  exact ⟨rfl, rfl⟩

end Go.Proofs.Qxb6000409a
