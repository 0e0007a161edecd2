/-
  THE MAP OF SLICES ('children'): what it holds is not told; only that each element is nil or a slice over a row of its own kind, so that it can be appended to.
-/
import Derived.Test.Qxb6000409aMaps
import Derived.ArgAppend
namespace Go.Proofs.Qxb6000409a
open Go.RowKit Go.Maps

/-- v is nil, or a slice of at most N strings over a whole row from block 'base' on -/
def goodB (w : World) (base N : Nat) : Value → Bool
  | .slice none n c => n == 0 && c == 0
  | .slice (some a) n c => a.off == 0 && a.spot == none && decide (base ≤ a.block) && decide (n ≤ N) && decide (n ≤ c) && decide (c ≤ maxLen) &&
      (match w.heap[a.block]? with
       | some (.cells cur t f) => cur.size == c && t == 9 && f.1 == 0 && f.2 == 0
       | _ => false)
  | _ => false

theorem good_nil (w : World) (base N : Nat) : goodB w base N (.slice none 0 0) = true := rfl
theorem good_mk {w : World} {base N g n c : Nat} {cur : Array Value} (h1 : base ≤ g) (h2 : n ≤ N) (h3 : n ≤ c) (h4 : c ≤ maxLen) (h5 : w.heap[g]? = some (.cells cur 9 (0, 0))) (h6 : cur.size = c) :
    goodB w base N (.slice (some ⟨g, 0, none⟩) n c) = true := by
  simp [goodB, h1, h2, h3, h4, h5, h6]
theorem good_inv {w : World} {base N : Nat} {v : Value} (h : goodB w base N v = true) : v = .slice none 0 0 ∨
    ∃ g n c cur, v = .slice (some ⟨g, 0, none⟩) n c ∧ base ≤ g ∧ n ≤ N ∧ n ≤ c ∧ c ≤ maxLen ∧ w.heap[g]? = some (.cells cur 9 (0, 0)) ∧ cur.size = c := by
  unfold goodB at h
  split at h
  · simp at h
    obtain ⟨rfl, rfl⟩ := h
    exact .inl rfl
  · rename_i a n c
    obtain ⟨g, o, sp⟩ := a
    simp only [Bool.and_eq_true, beq_iff_eq, decide_eq_true_eq] at h
    obtain ⟨⟨⟨⟨⟨⟨h1, h2⟩, h3⟩, h4⟩, h5⟩, h6⟩, h7⟩ := h
    subst h1; subst h2
    split at h7
    · rename_i cur t f hb
      simp only [Bool.and_eq_true, beq_iff_eq] at h7
      obtain ⟨⟨⟨e1, e2⟩, e3⟩, e4⟩ := h7
      obtain ⟨f1, f2⟩ := f
      simp only at e3 e4
      subst e2; subst e3; subst e4
      exact .inr ⟨g, n, c, cur, rfl, h3, h4, h5, h6, hb, e1⟩
    · simp at h7
  · simp at h

theorem good_of_block {w w' : World} {base N N' : Nat} (hN : N ≤ N') (hb : ∀ g cur, base ≤ g → w.heap[g]? = some (.cells cur 9 (0, 0)) → ∃ cur', w'.heap[g]? = some (.cells cur' 9 (0, 0)) ∧ cur'.size = cur.size) {v : Value} (h : goodB w base N v = true) : goodB w' base N' v = true := by
  rcases good_inv h with rfl | ⟨g, n, c, cur, rfl, h1, h2, h3, h4, h5, h6⟩
  · rfl
  · obtain ⟨cur', e1, e2⟩ := hb g cur h1 h5
    exact good_mk h1 (by omega) h3 h4 e1 (by omega)

/-- how an element reads: not at all, but that it is good -/
def rowR (w : World) (base N : Nat) (v : Value) : Option (DataW Unit × List MemPlace) := if goodB w base N v then some (.nil, []) else none
theorem rowR_mk {w : World} {base N : Nat} {v : Value} (h : goodB w base N v = true) : rowR w base N v = some (.nil, []) := by simp [rowR, h]
theorem rowR_inv {w : World} {base N : Nat} {v : Value} {z : DataW Unit × List MemPlace} (h : rowR w base N v = some z) : goodB w base N v = true ∧ z = (.nil, []) := by
  unfold rowR at h
  split at h
  · exact ⟨by assumption, by simpa using h.symm⟩
  · simp at h

def CMap (w : World) (b n base N : Nat) : Prop := ∃ D : DataW Unit, w.ownsMap Try.prog 9 (rowR w base N) b n D

theorem CMap.made (w : World) (base N : Nat) : CMap (w.alloc (.map #[] 0)) w.heap.size 0 base N := ⟨_, World.ownsMap_made w _ _ _⟩
theorem CMap.lt {w : World} {b n base N : Nat} (h : CMap w b n base N) : b < w.heap.size := by
  obtain ⟨D, h1⟩ := h
  exact h1.lt
/-- it stays while its own block stays and what was good stays good -/
theorem CMap.stay {w w' : World} {b n base N N' : Nat} (h : CMap w b n base N) (e : w'.heap[b]? = w.heap[b]?) (hg : ∀ v, goodB w base N v = true → goodB w' base N' v = true) : CMap w' b n base N' := by
  obtain ⟨D, es, clock, hb, F, hs, hD⟩ := h
  obtain ⟨F1, hmap, _⟩ := F.stay (R' := rowR w' base N') (fun x _ z hz => by
    obtain ⟨h1, rfl⟩ := rowR_inv hz
    exact rowR_mk (hg _ h1))
  exact ⟨_, es, clock, e.trans hb, F1, hs, rfl⟩
theorem CMap.look {w : World} {b n base N : Nat} (h : CMap w b n base N) {s : ByteArray} (hs : s.size ≤ maxLen) :
    ∃ v, (Instr.lookup 29 (.map (some b)) (.string s) false).run Try.prog w = .ok v w ∧ goodB w base N v = true := by
  obtain ⟨D, h1⟩ := h
  obtain ⟨v, ps, hrun, hv⟩ := h1.lookup key9 Try.underlying29 (zero22 w) (rowR_mk (good_nil w base N)) (WideMaps.keyOf_string_mk Try.underlying9 hs)
  exact ⟨v, hrun, (rowR_inv hv).1⟩
theorem entry_unique {l : List MapEntry} (h : l.Pairwise (fun x y => x.key ≠ y.key)) {x y : MapEntry} (hx : x ∈ l) (hy : y ∈ l) (e : x.key = y.key) : x = y := by
  induction l with
  | nil => simp at hx
  | cons z l ih =>
    rw [List.pairwise_cons] at h
    rcases List.mem_cons.1 hx with rfl | hx'
    · rcases List.mem_cons.1 hy with rfl | hy'
      · rfl
      · exact absurd e (h.1 y hy')
    · rcases List.mem_cons.1 hy with rfl | hy'
      · exact absurd e.symm (h.1 x hx')
      · exact ih h.2 hx' hy'
/-- one answer in every world whose map's block is the same -/
theorem CMap.look_all {w : World} {b n base N : Nat} (h : CMap w b n base N) {s : ByteArray} (hs : s.size ≤ maxLen) :
    ∃ v, goodB w base N v = true ∧ ∀ w' : World, w'.heap[b]? = w.heap[b]? → (Instr.lookup 29 (.map (some b)) (.string s) false).run Try.prog w' = .ok v w' := by
  obtain ⟨D, es, clock, hb, F, _, _⟩ := h
  have hkey : keyOf Try.prog 9 (.string s) = some (.string s.data.toList) := WideMaps.keyOf_string_mk Try.underlying9 hs
  have hpw := ((MapKept.stamped_iff es clock).1 F.stamped).2.2
  rcases Maps.fit_look false key9 Try.underlying29 (zero22 w) hb F hkey with ⟨_, h1, _⟩ | ⟨e0, y, m0, k0, _, hR, _, _⟩
  · refine ⟨.slice none 0 0, rfl, fun w' e => ?_⟩
    rcases Maps.fit_look false key9 Try.underlying29 (zero22 w') (e.trans hb) F hkey with ⟨hrun, _, _⟩ | ⟨e1, _, m1, k1, _, _, _, _⟩
    · exact hrun
    · exact absurd k1 (h1 e1 m1)
  · refine ⟨e0.val, (rowR_inv hR).1, fun w' e => ?_⟩
    rcases Maps.fit_look false key9 Try.underlying29 (zero22 w') (e.trans hb) F hkey with ⟨_, h1, _⟩ | ⟨e1, _, m1, k1, hrun, _, _, _⟩
    · exact absurd k0 (h1 e0 m0)
    · rw [entry_unique hpw m0 m1 (k0.trans k1.symm)]
      exact hrun
theorem CMap.put {w : World} {b n base N : Nat} (h : CMap w b n base N) (hb : b < base) (hn : n < maxLen) {s : ByteArray} (hs : s.size ≤ maxLen) {v : Value} (hv : goodB w base N v = true) :
    ∃ w', (Instr.mapUpdate 29 (.map (some b)) (.string s) v).run Try.prog w = .ok () w' ∧ CMap w' b (n + 1) base N ∧ w.grownBy w' (some b) := by
  obtain ⟨D, h1⟩ := h
  obtain ⟨w', hrun, hown, hg⟩ := h1.update key9 Try.underlying29 hn (WideMaps.keyOf_string_mk Try.underlying9 hs) (rowR_mk hv)
  refine ⟨w', hrun, ?_, hg⟩
  have hc : CMap w' b (n + 1) base N := by
    obtain ⟨es, clock, hb', F, hs', hD⟩ := hown
    obtain ⟨F1, _, _⟩ := F.stay (R' := rowR w' base N) (fun x _ z hz => by
      obtain ⟨h2, rfl⟩ := rowR_inv hz
      refine rowR_mk (good_of_block (Nat.le_refl _) (fun g cur hg1 hg2 => ⟨cur, ?_, rfl⟩) h2)
      have hlt : g < w.heap.size := (Array.getElem?_eq_some_iff.1 hg2).1
      rw [hg.block g hlt (by simp; omega)]
      exact hg2)
    exact ⟨_, es, clock, hb', F1, hs', rfl⟩
  exact hc

theorem info9 : (Try.prog.info? 9).map (fun i => (i.zero, i.size, i.bytes)) = some (some (.string ByteArray.empty), 1, 16) := by kernel_rfl

theorem setCells_one (w : World) (b o : Nat) (v : Value) : w.setCells b o [v] = w.setCell ⟨b, o, none⟩ v := rfl

/-- 'append(v, x)', v good: the new slice is good, what was good is good, and nothing below 'base' has turned -/
theorem append_good (w : World) (base N : Nat) (v : Value) (hv : goodB w base N v = true) (ad : Addr) (s : ByteArray) (had : w.cell? ad = some (.string s)) (hN : N ≤ 1000000) (hbase : base ≤ w.heap.size) (ty : TypeId) :
    ∃ v' w', (Builtin.append_ #[22, 22] ty #[v, .slice (some ad) 1 1]).run Try.prog w = .ok v' w' ∧ goodB w' base (N + 1) v' = true ∧ (∀ u, goodB w base N u = true → goodB w' base (N + 1) u = true) ∧ Below base w w' := by
  obtain ⟨i, hi, hzz⟩ := Option.map_eq_some_iff.1 info9
  simp only [Prod.mk.injEq] at hzz
  obtain ⟨hz, hsize, hbytes⟩ := hzz
  have hnews : ∀ j u, [Value.string s][j]? = some u → w.cell? (ad.add j) = some u := by
    intro j u hj
    match j, hj with
    | 0, hj => simp at hj; subst hj; rw [show ad.add 0 = ad by cases ad; rfl]; exact had
    | j + 1, hj => simp at hj
  have h1c : ∀ u ∈ [Value.string s], u.oneCell' = true := by intro u hu; simp at hu; subst hu; rfl
  have hml : (1000001 : Nat) ≤ maxLen := by unfold maxLen; omega
  rcases good_inv hv with rfl | ⟨g, n, c, cur, rfl, g1, g2, g3, g4, g5, g6⟩
  · obtain ⟨v', w', hrun, r1, r2, _⟩ := run_append_own (P := Try.prog) w w.heap.size 22 ty 9 i (.string ByteArray.empty) 1 16 Try.underlying22 hi hz hsize hbytes rfl (by decide) (.slice none 0 0) 0 [] (World.ownsRow_nil w _ 9 1) ad 1 1 [.string s] rfl hnews h1c (by omega) (by omega) (Nat.le_refl _)
    refine ⟨v', w', hrun, ?_, ?_, ?_⟩
    · rcases r1.2 with ⟨_, h0⟩ | ⟨g', cap, cur', rfl, a1, a2, a3, a4, a5, _⟩
      · omega
      · exact good_mk (by omega) (by omega) a3 a4 a2 (by omega)
    · intro u hu
      refine good_of_block (by omega) (fun g' cur' b1 b2 => ⟨cur', ?_, rfl⟩) hu
      rw [r2.block g' (Array.getElem?_eq_some_iff.1 b2).1 (by simp [Value.ownBlock])]
      exact b2
    · exact ⟨r2.os, r2.tape, r2.output, r2.size, fun k hk => r2.block k (by omega) (by simp [Value.ownBlock])⟩
  · by_cases hroom : n + 1 ≤ c
    · have hcell : (w.cell? ⟨g, 0 + n * i.size + 0, none⟩).isSome = true := by
        simp [World.cell?, g5, hsize]; omega
      have hfr : w.frozen? ⟨g, 0 + n * i.size + 0, none⟩ = false := by simp [World.frozen?, g5]
      have hrun := run_append_room_cells (P := Try.prog) w 22 ty 9 i Try.underlying22 hi g 0 n c ad 1 1 [.string s] (by rw [hsize]; rfl) hnews h1c hroom
        (fun j hj => by obtain rfl : j = 0 := by simpa using hj
                        exact hcell) (fun j hj => by obtain rfl : j = 0 := by simpa using hj
                                                     exact hfr)
      rw [setCells_one] at hrun
      have hblk : (w.setCell ⟨g, 0 + n * i.size, none⟩ (.string s)).heap[g]? = some (.cells (cur.setIfInBounds (0 + n * i.size) (.string s)) 9 (0, 0)) := by
        simp [World.setCell, Array.getElem?_modify, g5]
      refine ⟨_, _, hrun, good_mk g1 (by omega) hroom g4 hblk (by simpa using g6), ?_, ?_⟩
      · intro u hu
        refine good_of_block (by omega) (fun g' cur' b1 b2 => ?_) hu
        by_cases e : g' = g
        · subst e
          rw [g5] at b2
          simp only [Option.some.injEq, Obj.cells.injEq] at b2
          obtain ⟨rfl, _⟩ := b2
          exact ⟨_, hblk, by simp⟩
        · exact ⟨cur', by rw [Below.heap_setCell _ _ _ _ e]; exact b2, rfl⟩
      · exact (Below.refl _ _).setCell g1 _
    · have holds : ∀ j u, (cur.toList.take (n * 1))[j]? = some u → w.cell? ((⟨g, 0, none⟩ : Addr).add j) = some u := by
        intro j u hj
        rw [List.getElem?_take] at hj
        split at hj
        · rw [show (⟨g, 0, none⟩ : Addr).add j = ⟨g, 0 + j, none⟩ by unfold Addr.add; split <;> simp_all]
          simp [World.cell?, g5]
          simpa using hj
        · simp at hj
      obtain ⟨v', w', hrun, r1, r2⟩ := run_append_arg_grows (P := Try.prog) w 22 ty 9 i (.string ByteArray.empty) 1 16 Try.underlying22 hi hz hsize hbytes rfl (by decide) ⟨g, 0, none⟩ n c (cur.toList.take (n * 1)) (by simp; omega) holds ad 1 1 [.string s] rfl hnews (by omega) (by omega) (by omega)
      refine ⟨v', w', hrun, ?_, ?_, ?_⟩
      · rcases r1.2 with ⟨_, h0⟩ | ⟨g', cap, cur', rfl, a1, a2, a3, a4, a5, _⟩
        · omega
        · exact good_mk (by omega) (by omega) a3 a4 a2 (by omega)
      · intro u hu
        refine good_of_block (by omega) (fun g' cur' b1 b2 => ⟨cur', ?_, rfl⟩) hu
        rw [r2.block g' (Array.getElem?_eq_some_iff.1 b2).1 (by simp)]
        exact b2
      · exact ⟨r2.os, r2.tape, r2.output, r2.size, fun k hk => r2.block k (by omega) (by simp)⟩

end Go.Proofs.Qxb6000409a
