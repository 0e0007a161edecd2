/-
  THE THREE MAPS OF A Protocol, each told by a plain function on strings.
-/
import Derived.Test.Qxb6000409aRows
import Derived.WalkKit
import Derived.WalkSpells
import Derived.WalkLawsBesides
import Derived.Maps.OwnSet
import Derived.Maps.StringElems
namespace Go.Proofs.Qxb6000409a
open Go.RowKit Go.Maps

theorem key9 : Keyed Try.prog 9 := string_keyed Try.underlying9
theorem zero9 (w : World) : (zeroValue 9).run Try.prog w = .ok (.string ByteArray.empty) w := by kernel_rfl
theorem zero3 (w : World) : (zeroValue 3).run Try.prog w = .ok (.int .i64 0) w := by kernel_rfl
theorem zero22 (w : World) : (zeroValue 22).run Try.prog w = .ok (.slice none 0 0) w := by kernel_rfl

theorem bytes_ext {s t : ByteArray} (h : s.data.toList = t.data.toList) : s = t := by
  apply ByteArray.ext
  exact Array.toList_inj.1 h

/-- block b is a map[string]string of at most n entries that answers as m -/
def SMap (w : World) (b n : Nat) (m : ByteArray → Option ByteArray) : Prop :=
  ∃ D : DataW Unit, w.ownsMap Try.prog 9 (plainElem Try.prog 9) b n D ∧
    ∀ s : ByteArray, Maps.has D (.string s.data.toList) = (m s).isSome ∧ D.atKey (.string s.data.toList) (.lit (.string [])) = .lit (.string ((m s).getD ByteArray.empty).data.toList)

/-- block b is a map[string]int of at most n entries that answers as m -/
def IMap (w : World) (b n : Nat) (m : ByteArray → Option Int) : Prop :=
  ∃ D : DataW Unit, w.ownsMap Try.prog 9 (plainElem Try.prog 3) b n D ∧
    ∀ s : ByteArray, Maps.has D (.string s.data.toList) = (m s).isSome ∧ D.atKey (.string s.data.toList) (.lit (.int .i64 0)) = .lit (.int .i64 ((m s).getD 0))

theorem owns_of_block {R : Value → Option (DataW Unit × List MemPlace)} {w w' : World} {b n : Nat} {D : DataW Unit} (h : w.ownsMap Try.prog 9 R b n D) (e : w'.heap[b]? = w.heap[b]?) : w'.ownsMap Try.prog 9 R b n D := by
  obtain ⟨es, clock, hb, r⟩ := h
  exact ⟨es, clock, e.trans hb, r⟩

theorem SMap.of_block {w w' : World} {b n : Nat} {m : ByteArray → Option ByteArray} (h : SMap w b n m) (e : w'.heap[b]? = w.heap[b]?) : SMap w' b n m := by
  obtain ⟨D, h1, h2⟩ := h
  exact ⟨D, owns_of_block h1 e, h2⟩
theorem IMap.of_block {w w' : World} {b n : Nat} {m : ByteArray → Option Int} (h : IMap w b n m) (e : w'.heap[b]? = w.heap[b]?) : IMap w' b n m := by
  obtain ⟨D, h1, h2⟩ := h
  exact ⟨D, owns_of_block h1 e, h2⟩
theorem SMap.lt {w : World} {b n : Nat} {m : ByteArray → Option ByteArray} (h : SMap w b n m) : b < w.heap.size := by
  obtain ⟨D, h1, _⟩ := h
  exact h1.lt
theorem IMap.lt {w : World} {b n : Nat} {m : ByteArray → Option Int} (h : IMap w b n m) : b < w.heap.size := by
  obtain ⟨D, h1, _⟩ := h
  exact h1.lt
theorem SMap.later {w w' : World} {b n : Nat} {m : ByteArray → Option ByteArray} (h : SMap w b n m) (hb : Below w.heap.size w w') : SMap w' b n m := h.of_block (hb.block b h.lt)
theorem IMap.later {w w' : World} {b n : Nat} {m : ByteArray → Option Int} (h : IMap w b n m) (hb : Below w.heap.size w w') : IMap w' b n m := h.of_block (hb.block b h.lt)

theorem SMap.made (w : World) : SMap (w.alloc (.map #[] 0)) w.heap.size 0 (fun _ => none) :=
  ⟨.map [], World.ownsMap_made w _ _ _, fun _ => ⟨rfl, rfl⟩⟩
theorem IMap.made (w : World) : IMap (w.alloc (.map #[] 0)) w.heap.size 0 (fun _ => none) :=
  ⟨.map [], World.ownsMap_made w _ _ _, fun _ => ⟨rfl, rfl⟩⟩

theorem SMap.look {w : World} {b n : Nat} {m : ByteArray → Option ByteArray} (h : SMap w b n m) {s : ByteArray} (hs : s.size ≤ maxLen) :
    (Instr.lookup 28 (.map (some b)) (.string s) false).run Try.prog w = .ok (.string ((m s).getD ByteArray.empty)) w := by
  obtain ⟨D, h1, h2⟩ := h
  obtain ⟨v, ps, hrun, hv⟩ := h1.lookup key9 Try.underlying28 (zero9 w) (plainElem_string Try.underlying9 (by decide)) (WideMaps.keyOf_string_mk Try.underlying9 hs)
  obtain ⟨t, rfl, ht, _⟩ := plainElem_string_inv Try.underlying9 hv
  have e1 := (h2 s).2
  have e2 : D.atKey (.string s.data.toList) (.lit (.string [])) = .lit (.string t.data.toList) := congrArg Prod.fst ht
  rw [e1] at e2
  simp only [DataW.lit.injEq, Lit.string.injEq] at e2
  rw [hrun, bytes_ext e2]
theorem SMap.look_ok {w : World} {b n : Nat} {m : ByteArray → Option ByteArray} (h : SMap w b n m) {s : ByteArray} (hs : s.size ≤ maxLen) :
    (Instr.lookup 28 (.map (some b)) (.string s) true).run Try.prog w = .ok (.tuple #[.string ((m s).getD ByteArray.empty), .bool (m s).isSome]) w := by
  obtain ⟨D, h1, h2⟩ := h
  obtain ⟨v, ps, hrun, hv⟩ := h1.look_ok key9 Try.underlying28 (zero9 w) (plainElem_string Try.underlying9 (by decide)) (WideMaps.keyOf_string_mk Try.underlying9 hs)
  obtain ⟨t, rfl, ht, _⟩ := plainElem_string_inv Try.underlying9 hv
  have e1 := (h2 s).2
  have e2 : D.atKey (.string s.data.toList) (.lit (.string [])) = .lit (.string t.data.toList) := congrArg Prod.fst ht
  rw [e1] at e2
  simp only [DataW.lit.injEq, Lit.string.injEq] at e2
  rw [hrun, bytes_ext e2, (h2 s).1]
theorem IMap.look_ok {w : World} {b n : Nat} {m : ByteArray → Option Int} (h : IMap w b n m) {s : ByteArray} (hs : s.size ≤ maxLen) :
    (Instr.lookup 30 (.map (some b)) (.string s) true).run Try.prog w = .ok (.tuple #[.int .i64 ((m s).getD 0), .bool (m s).isSome]) w := by
  obtain ⟨D, h1, h2⟩ := h
  obtain ⟨v, ps, hrun, hv⟩ := h1.look_ok key9 Try.underlying30 (zero3 w) (plainElem_int Try.underlying3 (by decide)) (WideMaps.keyOf_string_mk Try.underlying9 hs)
  obtain ⟨t, rfl, ht, _⟩ := plainElem_int_inv Try.underlying3 hv
  have e1 := (h2 s).2
  have e2 : D.atKey (.string s.data.toList) (.lit (.int .i64 0)) = .lit (.int .i64 t) := congrArg Prod.fst ht
  rw [e1] at e2
  simp only [DataW.lit.injEq, Lit.int.injEq, true_and] at e2
  rw [hrun, e2, (h2 s).1]

/-- m with one key turned -/
def upd {α : Type} (m : ByteArray → Option α) (s : ByteArray) (v : α) : ByteArray → Option α := fun x => if x = s then some v else m x

theorem SMap.put {w : World} {b n : Nat} {m : ByteArray → Option ByteArray} (h : SMap w b n m) (hn : n < maxLen) {s v : ByteArray} (hs : s.size ≤ maxLen) (hv : v.size ≤ maxLen) :
    ∃ w', (Instr.mapUpdate 28 (.map (some b)) (.string s) (.string v)).run Try.prog w = .ok () w' ∧ SMap w' b (n + 1) (upd m s v) ∧ w.grownBy w' (some b) := by
  obtain ⟨D, h1, h2⟩ := h
  have hkey : keyOf Try.prog 9 (.string s) = some (.string s.data.toList) := WideMaps.keyOf_string_mk Try.underlying9 hs
  obtain ⟨w', hrun, hown, hg⟩ := h1.update key9 Try.underlying28 hn hkey (plainElem_string Try.underlying9 hv)
  refine ⟨w', hrun, ⟨_, hown, fun x => ?_⟩, hg⟩
  unfold upd
  by_cases e : x = s
  · subst e
    rw [if_pos rfl]
    exact ⟨Maps.has_put_same h1.isMap (key9.key hkey) _, Maps.atKey_put_same h1.isMap (key9.key hkey) _ _⟩
  · rw [if_neg e]
    have hne : Lit.string x.data.toList ≠ .string s.data.toList := fun q => e (bytes_ext (by simpa using q))
    rw [Maps.has_put_other hne, Maps.atKey_put_other hne]
    exact h2 x
theorem IMap.put {w : World} {b n : Nat} {m : ByteArray → Option Int} (h : IMap w b n m) (hn : n < maxLen) {s : ByteArray} {v : Int} (hs : s.size ≤ maxLen) (hv : (Lit.int .i64 v).wf = true) :
    ∃ w', (Instr.mapUpdate 30 (.map (some b)) (.string s) (.int .i64 v)).run Try.prog w = .ok () w' ∧ IMap w' b (n + 1) (upd m s v) ∧ w.grownBy w' (some b) := by
  obtain ⟨D, h1, h2⟩ := h
  have hkey : keyOf Try.prog 9 (.string s) = some (.string s.data.toList) := WideMaps.keyOf_string_mk Try.underlying9 hs
  obtain ⟨w', hrun, hown, hg⟩ := h1.update key9 Try.underlying30 hn hkey (plainElem_int Try.underlying3 hv)
  refine ⟨w', hrun, ⟨_, hown, fun x => ?_⟩, hg⟩
  unfold upd
  by_cases e : x = s
  · subst e
    rw [if_pos rfl]
    exact ⟨Maps.has_put_same h1.isMap (key9.key hkey) _, Maps.atKey_put_same h1.isMap (key9.key hkey) _ _⟩
  · rw [if_neg e]
    have hne : Lit.string x.data.toList ≠ .string s.data.toList := fun q => e (bytes_ext (by simpa using q))
    rw [Maps.has_put_other hne, Maps.atKey_put_other hne]
    exact h2 x

end Go.Proofs.Qxb6000409a
