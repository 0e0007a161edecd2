/-
  PLAIN: the classes of a byte, range by range of the ASCII chart. No Go here.
-/
import Derived.Test.Qxb6602330aPlain
namespace Go.Proofs.Qxb6602330a.Plain

theorem cls_0 {c : Int} (a : 0 ≤ c) (b : c ≤ 8) : inK 0 c = false ∧ inK 1 c = false ∧ inK 2 c = false ∧ inK 3 c = true ∧ inK 4 c = false ∧ inK 5 c = false ∧ inK 6 c = false ∧ inK 7 c = false ∧ inK 8 c = false ∧ inK 9 c = false ∧ inK 10 c = false ∧ inK 11 c = false := by
  refine ⟨?_, ?_, ?_, ?_, ?_, ?_, ?_, ?_, ?_, ?_, ?_, ?_⟩ <;> simp [inK, up, lo, dg, gr] <;> omega
theorem cls_1 {c : Int} (a : 9 ≤ c) (b : c ≤ 9) : inK 0 c = false ∧ inK 1 c = false ∧ inK 2 c = true ∧ inK 3 c = true ∧ inK 4 c = false ∧ inK 5 c = false ∧ inK 6 c = false ∧ inK 7 c = false ∧ inK 8 c = false ∧ inK 9 c = true ∧ inK 10 c = false ∧ inK 11 c = false := by
  refine ⟨?_, ?_, ?_, ?_, ?_, ?_, ?_, ?_, ?_, ?_, ?_, ?_⟩ <;> simp [inK, up, lo, dg, gr] <;> omega
theorem cls_2 {c : Int} (a : 10 ≤ c) (b : c ≤ 13) : inK 0 c = false ∧ inK 1 c = false ∧ inK 2 c = false ∧ inK 3 c = true ∧ inK 4 c = false ∧ inK 5 c = false ∧ inK 6 c = false ∧ inK 7 c = false ∧ inK 8 c = false ∧ inK 9 c = true ∧ inK 10 c = false ∧ inK 11 c = false := by
  refine ⟨?_, ?_, ?_, ?_, ?_, ?_, ?_, ?_, ?_, ?_, ?_, ?_⟩ <;> simp [inK, up, lo, dg, gr] <;> omega
theorem cls_3 {c : Int} (a : 14 ≤ c) (b : c ≤ 31) : inK 0 c = false ∧ inK 1 c = false ∧ inK 2 c = false ∧ inK 3 c = true ∧ inK 4 c = false ∧ inK 5 c = false ∧ inK 6 c = false ∧ inK 7 c = false ∧ inK 8 c = false ∧ inK 9 c = false ∧ inK 10 c = false ∧ inK 11 c = false := by
  refine ⟨?_, ?_, ?_, ?_, ?_, ?_, ?_, ?_, ?_, ?_, ?_, ?_⟩ <;> simp [inK, up, lo, dg, gr] <;> omega
theorem cls_4 {c : Int} (a : 32 ≤ c) (b : c ≤ 32) : inK 0 c = false ∧ inK 1 c = false ∧ inK 2 c = true ∧ inK 3 c = false ∧ inK 4 c = false ∧ inK 5 c = false ∧ inK 6 c = false ∧ inK 7 c = true ∧ inK 8 c = false ∧ inK 9 c = true ∧ inK 10 c = false ∧ inK 11 c = false := by
  refine ⟨?_, ?_, ?_, ?_, ?_, ?_, ?_, ?_, ?_, ?_, ?_, ?_⟩ <;> simp [inK, up, lo, dg, gr] <;> omega
theorem cls_5 {c : Int} (a : 33 ≤ c) (b : c ≤ 47) : inK 0 c = false ∧ inK 1 c = false ∧ inK 2 c = false ∧ inK 3 c = false ∧ inK 4 c = false ∧ inK 5 c = true ∧ inK 6 c = false ∧ inK 7 c = true ∧ inK 8 c = true ∧ inK 9 c = false ∧ inK 10 c = false ∧ inK 11 c = false := by
  refine ⟨?_, ?_, ?_, ?_, ?_, ?_, ?_, ?_, ?_, ?_, ?_, ?_⟩ <;> simp [inK, up, lo, dg, gr] <;> omega
theorem cls_6 {c : Int} (a : 48 ≤ c) (b : c ≤ 57) : inK 0 c = true ∧ inK 1 c = false ∧ inK 2 c = false ∧ inK 3 c = false ∧ inK 4 c = true ∧ inK 5 c = true ∧ inK 6 c = false ∧ inK 7 c = true ∧ inK 8 c = false ∧ inK 9 c = false ∧ inK 10 c = false ∧ inK 11 c = true := by
  refine ⟨?_, ?_, ?_, ?_, ?_, ?_, ?_, ?_, ?_, ?_, ?_, ?_⟩ <;> simp [inK, up, lo, dg, gr] <;> omega
theorem cls_7 {c : Int} (a : 58 ≤ c) (b : c ≤ 64) : inK 0 c = false ∧ inK 1 c = false ∧ inK 2 c = false ∧ inK 3 c = false ∧ inK 4 c = false ∧ inK 5 c = true ∧ inK 6 c = false ∧ inK 7 c = true ∧ inK 8 c = true ∧ inK 9 c = false ∧ inK 10 c = false ∧ inK 11 c = false := by
  refine ⟨?_, ?_, ?_, ?_, ?_, ?_, ?_, ?_, ?_, ?_, ?_, ?_⟩ <;> simp [inK, up, lo, dg, gr] <;> omega
theorem cls_8 {c : Int} (a : 65 ≤ c) (b : c ≤ 70) : inK 0 c = true ∧ inK 1 c = true ∧ inK 2 c = false ∧ inK 3 c = false ∧ inK 4 c = false ∧ inK 5 c = true ∧ inK 6 c = false ∧ inK 7 c = true ∧ inK 8 c = false ∧ inK 9 c = false ∧ inK 10 c = true ∧ inK 11 c = true := by
  refine ⟨?_, ?_, ?_, ?_, ?_, ?_, ?_, ?_, ?_, ?_, ?_, ?_⟩ <;> simp [inK, up, lo, dg, gr] <;> omega
theorem cls_9 {c : Int} (a : 71 ≤ c) (b : c ≤ 90) : inK 0 c = true ∧ inK 1 c = true ∧ inK 2 c = false ∧ inK 3 c = false ∧ inK 4 c = false ∧ inK 5 c = true ∧ inK 6 c = false ∧ inK 7 c = true ∧ inK 8 c = false ∧ inK 9 c = false ∧ inK 10 c = true ∧ inK 11 c = false := by
  refine ⟨?_, ?_, ?_, ?_, ?_, ?_, ?_, ?_, ?_, ?_, ?_, ?_⟩ <;> simp [inK, up, lo, dg, gr] <;> omega
theorem cls_10 {c : Int} (a : 91 ≤ c) (b : c ≤ 96) : inK 0 c = false ∧ inK 1 c = false ∧ inK 2 c = false ∧ inK 3 c = false ∧ inK 4 c = false ∧ inK 5 c = true ∧ inK 6 c = false ∧ inK 7 c = true ∧ inK 8 c = true ∧ inK 9 c = false ∧ inK 10 c = false ∧ inK 11 c = false := by
  refine ⟨?_, ?_, ?_, ?_, ?_, ?_, ?_, ?_, ?_, ?_, ?_, ?_⟩ <;> simp [inK, up, lo, dg, gr] <;> omega
theorem cls_11 {c : Int} (a : 97 ≤ c) (b : c ≤ 102) : inK 0 c = true ∧ inK 1 c = true ∧ inK 2 c = false ∧ inK 3 c = false ∧ inK 4 c = false ∧ inK 5 c = true ∧ inK 6 c = true ∧ inK 7 c = true ∧ inK 8 c = false ∧ inK 9 c = false ∧ inK 10 c = false ∧ inK 11 c = true := by
  refine ⟨?_, ?_, ?_, ?_, ?_, ?_, ?_, ?_, ?_, ?_, ?_, ?_⟩ <;> simp [inK, up, lo, dg, gr] <;> omega
theorem cls_12 {c : Int} (a : 103 ≤ c) (b : c ≤ 122) : inK 0 c = true ∧ inK 1 c = true ∧ inK 2 c = false ∧ inK 3 c = false ∧ inK 4 c = false ∧ inK 5 c = true ∧ inK 6 c = true ∧ inK 7 c = true ∧ inK 8 c = false ∧ inK 9 c = false ∧ inK 10 c = false ∧ inK 11 c = false := by
  refine ⟨?_, ?_, ?_, ?_, ?_, ?_, ?_, ?_, ?_, ?_, ?_, ?_⟩ <;> simp [inK, up, lo, dg, gr] <;> omega
theorem cls_13 {c : Int} (a : 123 ≤ c) (b : c ≤ 126) : inK 0 c = false ∧ inK 1 c = false ∧ inK 2 c = false ∧ inK 3 c = false ∧ inK 4 c = false ∧ inK 5 c = true ∧ inK 6 c = false ∧ inK 7 c = true ∧ inK 8 c = true ∧ inK 9 c = false ∧ inK 10 c = false ∧ inK 11 c = false := by
  refine ⟨?_, ?_, ?_, ?_, ?_, ?_, ?_, ?_, ?_, ?_, ?_, ?_⟩ <;> simp [inK, up, lo, dg, gr] <;> omega
theorem cls_14 {c : Int} (a : 127 ≤ c) (b : c ≤ 127) : inK 0 c = false ∧ inK 1 c = false ∧ inK 2 c = false ∧ inK 3 c = true ∧ inK 4 c = false ∧ inK 5 c = false ∧ inK 6 c = false ∧ inK 7 c = false ∧ inK 8 c = false ∧ inK 9 c = false ∧ inK 10 c = false ∧ inK 11 c = false := by
  refine ⟨?_, ?_, ?_, ?_, ?_, ?_, ?_, ?_, ?_, ?_, ?_, ?_⟩ <;> simp [inK, up, lo, dg, gr] <;> omega
theorem cls_15 {c : Int} (a : 128 ≤ c) (b : c ≤ 255) : inK 0 c = false ∧ inK 1 c = false ∧ inK 2 c = false ∧ inK 3 c = false ∧ inK 4 c = false ∧ inK 5 c = false ∧ inK 6 c = false ∧ inK 7 c = false ∧ inK 8 c = false ∧ inK 9 c = false ∧ inK 10 c = false ∧ inK 11 c = false := by
  refine ⟨?_, ?_, ?_, ?_, ?_, ?_, ?_, ?_, ?_, ?_, ?_, ?_⟩ <;> simp [inK, up, lo, dg, gr] <;> omega

theorem ranges {c : Int} (h0 : 0 ≤ c) (h1 : c ≤ 255) : (0 ≤ c ∧ c ≤ 8) ∨ (9 ≤ c ∧ c ≤ 9) ∨ (10 ≤ c ∧ c ≤ 13) ∨ (14 ≤ c ∧ c ≤ 31) ∨ (32 ≤ c ∧ c ≤ 32) ∨ (33 ≤ c ∧ c ≤ 47) ∨ (48 ≤ c ∧ c ≤ 57) ∨ (58 ≤ c ∧ c ≤ 64) ∨ (65 ≤ c ∧ c ≤ 70) ∨ (71 ≤ c ∧ c ≤ 90) ∨ (91 ≤ c ∧ c ≤ 96) ∨ (97 ≤ c ∧ c ≤ 102) ∨ (103 ≤ c ∧ c ≤ 122) ∨ (123 ≤ c ∧ c ≤ 126) ∨ (127 ≤ c ∧ c ≤ 127) ∨ (128 ≤ c ∧ c ≤ 255) := by omega

end Go.Proofs.Qxb6602330a.Plain
