import Derived.Test.Qxb6602279aBase
import Derived.Laws.CopyRow
import Derived.Laws.CopyOwn
import Derived.Deep.OwnRows
namespace Go.Proofs.Qxb6602279a
open Go.RowKit Plain

theorem info5 : (Try.prog.info? 5).map (fun i => (i.zero, i.size, i.bytes)) = some (some (.int .u8 0), 1, 1) := by kernel_rfl
theorem info5s : (Try.prog.info? 5).map (·.size) = some 1 := by kernel_rfl

/-- the bytes as values -/
def vals (g : Nat → Int) (n : Nat) : List Value := (List.range n).map fun j => Value.int .u8 (g j)
theorem vals_length (g : Nat → Int) (n : Nat) : (vals g n).length = n := by simp [vals]
theorem vals_get (g : Nat → Int) (n j : Nat) (h : j < n) : (vals g n)[j]? = some (.int .u8 (g j)) := by simp [vals, h]
theorem vals_some {g : Nat → Int} {n j : Nat} {v : Value} (h : (vals g n)[j]? = some v) : j < n ∧ v = .int .u8 (g j) := by
  have hj : j < n := by
    have := (List.getElem?_eq_some_iff.1 h).1
    simpa [vals_length] using this
  rw [vals_get g n j hj] at h
  exact ⟨hj, by simpa using h.symm⟩
theorem vals_one (g : Nat → Int) (n : Nat) : ∀ v ∈ vals g n, v.oneCell' = true := by
  intro v hv
  simp only [vals, List.mem_map] at hv
  obtain ⟨j, _, rfl⟩ := hv
  rfl

theorem add_zero_off (x : Addr) : x.add 0 = x := by cases x; rfl

theorem clone_nil (w : World) : Calls Try.prog 11 #[.slice none 0 0] w fun e w' => e = .returned (.slice none 0 0) ∧ w' = w := by
  have hnil := fun (w : World) => Lib.run_eql_slice_nil (P := Try.prog) w 22 5 none 0 0 0 0 Try.underlying22
  go_enter Try.func11, Try.ntmps11
  go_wp2
  go_ret
  exact ⟨rfl, rfl⟩

set_option maxHeartbeats 400000 in
theorem clone_some (x : Addr) (n c : Nat) (g : Nat → Int) (w : World) (hn : n ≤ 1048576) (hx : ∀ j, j < n → w.cell? (x.add j) = some (.int .u8 (g j))) :
    Calls Try.prog 11 #[.slice (some x) n c] w fun e w' => e = .returned (.slice (some ⟨w.heap.size, 0, none⟩) n n) ∧
      (∀ j, j < n → w'.cell? ⟨w.heap.size, 0 + j, none⟩ = some (.int .u8 (g j))) ∧ Below w.heap.size w w' ∧ w.heap.size < w'.heap.size := by
  have hnil := fun (w : World) => Lib.run_eql_slice_nil (P := Try.prog) w 22 5 (some x) n c 0 0 Try.underlying22
  have hmk := run_make_row' (P := Try.prog) 22 5 (.int .u8 0) 1 Try.underlying22 info5 rfl .i64 .i64 n (by omega) (by omega)
  obtain ⟨M, hM⟩ : ∃ M, M = madeCells #[Value.int .u8 0] n := ⟨_, rfl⟩
  have hMs : M.size = n := by rw [hM, size_madeCells]
  rw [← hM] at hmk
  clear hM
  have hb1 : Below w.heap.size w (w.alloc (.cells M 5)) := (Below.refl _ w).alloc (Nat.le_refl _) _
  have hcp := run_copy_row (P := Try.prog) (w.alloc (.cells M 5)) 22 22 3 5 w.heap.size 0 n n x n c M 5 (vals g n) Try.underlying22 info5s (heap_alloc_new w _)
    (by rw [vals_length]; simp)
    (fun j v hv => by obtain ⟨hj, rfl⟩ := vals_some hv; exact cell_later hb1 (hx j hj))
    (by rw [vals_length]; omega) (vals_one g n)
  rw [vals_length] at hcp
  obtain ⟨Y, hY⟩ : ∃ Y, Y = (M.toList.take 0 ++ vals g n ++ M.toList.drop (0 + n)).toArray := ⟨_, rfl⟩
  rw [← hY] at hcp
  have hYl : Y.toList = vals g n := by
    rw [hY, List.toList_toArray, List.take_zero, List.nil_append, List.drop_of_length_le (by rw [Array.length_toList]; omega), List.append_nil]
  have hgY : ((w.alloc (.cells M 5)).setRow w.heap.size Y).heap[w.heap.size]? = some (.cells Y 5 (0, 0)) := setRow_heap _ _ M _ 5 (0, 0) (heap_alloc_new w _)
  have hb2 : Below w.heap.size (w.alloc (.cells M 5)) ((w.alloc (.cells M 5)).setRow w.heap.size Y) := ⟨rfl, rfl, rfl, by simp [World.setRow], fun k hk => setRow_other _ _ _ _ (by omega)⟩
  have hcs : ∀ j, j < n → ((w.alloc (.cells M 5)).setRow w.heap.size Y).cell? ⟨w.heap.size, 0 + j, none⟩ = some (.int .u8 (g j)) := by
    intro j hj
    rw [cell_setRow_same _ _ _ M _ 5 (0, 0) (heap_alloc_new w _), ← Array.getElem?_toList, hYl, Nat.zero_add]
    exact vals_get g n j hj
  have hsz : w.heap.size < ((w.alloc (.cells M 5)).setRow w.heap.size Y).heap.size := by simp [World.setRow]
  clear hY hYl hgY
  have HC : Hid (∀ j, j < n → ((w.alloc (.cells M 5)).setRow w.heap.size Y).cell? ⟨w.heap.size, 0 + j, none⟩ = some (.int .u8 (g j))) := hcs
  clear hcs
  go_enter Try.func11, Try.ntmps11
  go_wp2
  go_ret
  exact ⟨rfl, HC.out, hb1.trans hb2, hsz⟩

end Go.Proofs.Qxb6602279a
