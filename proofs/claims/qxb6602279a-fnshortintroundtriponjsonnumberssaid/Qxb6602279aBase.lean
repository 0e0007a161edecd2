import Derived.Test.Qxb6602279aRows
import Derived.Test.Qxb6602279aPlain
import Derived.WalkKit
import Derived.WalkSpells
import Derived.WalkLawsBesides
namespace Go.Proofs.Qxb6602279a
open Go.RowKit Plain

/-- the first n cells from a on are the bytes g 0, g 1, .. -/
def Seg (w : World) (a : Option Addr) (n : Nat) (g : Nat → Int) : Prop :=
  n = 0 ∨ ∃ b off, a = some ⟨b, off, none⟩ ∧ ∀ j, j < n → w.cell? ⟨b, off + j, none⟩ = some (.int .u8 (g j))

theorem ret_int {k : IntKind} {a b : Int} (h : a = b) : Ending.returned (.int k a) = .returned (.int k b) := by rw [h]

set_option maxHeartbeats 400000 in
theorem skip_any (a : Option Addr) (n c : Nat) (g : Nat → Int) (z : Int) (i : Nat) (hz : z = i) (w : World) (hn : n ≤ maxLen) (hi : i ≤ 9223372036854775807) (hs : Seg w a n g) :
    Calls Try.prog 34 #[.slice a n c, .int .i64 z] w fun e w' => e = .returned (.int .i64 (skipD g n i)) ∧ w' = w := by
  subst hz
  unfold maxLen at hn
  rcases hs with rfl | ⟨b, off, rfl, hc⟩
  · have hst : skipD g 0 i = i := skipD_stop (by omega)
    have HS : Hid (skipD g 0 i = i) := hst
    clear hst
    go_enter Try.func34, Try.ntmps34
    go_wp2
    go_loop [1] (fun v => v = .int .i64 i) (fun v => 0)
    case atStart => rfl
    case round =>
      subst hrel
      go_wp2
      go_ret
      exact ⟨ret_int (by rw [HS.out]), rfl⟩
  · go_enter Try.func34, Try.ntmps34
    go_wp2
    go_loop [1] (fun v => ∃ k : Nat, i ≤ k ∧ k ≤ 9223372036854775807 ∧ v = .int .i64 k ∧ Hid (skipD g n i = skipD g n k)) (fun v => n - (intOf v).toNat)
    case atStart => exact ⟨i, Nat.le_refl _, hi, rfl, rfl⟩
    case round =>
      obtain ⟨k, hk, hk2, rfl, HS⟩ := hrel
      by_cases hlt : k < n
      · have hcell := hc k hlt
        by_cases h1 : 48 ≤ g k
        · by_cases h2 : g k ≤ 57
          · go_wp2
            go_round
            case rel => exact ⟨k + 1, by omega, by omega, by go_num, HS.out.trans (skipD_step hlt h1 h2)⟩
            case measure => simp [intOf]; omega
          · go_wp2
            go_ret
            exact ⟨ret_int (by rw [HS.out, skipD_stop (by omega)]), rfl⟩
        · go_wp2
          go_ret
          exact ⟨ret_int (by rw [HS.out, skipD_stop (by omega)]), rfl⟩
      · go_wp2
        go_ret
        exact ⟨ret_int (by rw [HS.out, skipD_stop (by omega)]), rfl⟩

end Go.Proofs.Qxb6602279a
