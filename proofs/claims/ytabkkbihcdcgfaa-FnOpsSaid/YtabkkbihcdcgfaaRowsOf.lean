/-
  A call whose body builds 199 rows of two cells and returns the slice over them: what it makes, said by the rows alone. Conditions: the equations on the body's operations.
-/
import Derived.Test.YtabkkbihcdcgfaaStraight
namespace Go.Proofs.Ytabkkbihcdcgfaa
open Go

/-- The cells of 199 zero rows. -/
def blank : Array Value := (Array.range (199 * 2)).map fun x => (Value.agg #[.string ⟨#[]⟩, .int .i64 0]).cells[x % (Value.agg #[.string ⟨#[]⟩, .int .i64 0]).cells.size]!

theorem run_rows {P : Program} {t elem : TypeId} (w : World) (hu : P.underlying t = some (.slice elem)) (hs : (sizeOf elem).run P w = .ok 2 w)
    (hz : (zeroValue elem).run P w = .ok (.agg #[.string ⟨#[]⟩, .int .i64 0]) w) (parts : Array (Nat × Value)) (cells : Array Value)
    (h : Instr.fill (fun i => some (i * 2, 2)) blank parts.toList = some cells) :
    (Instr.buildSlice t 199 parts).run P w = .ok (.slice (some ⟨w.heap.size, 0, none⟩) 199 199) (w.alloc (.cells cells elem)) := by
  unfold blank at h
  unfold Instr.buildSlice
  simp only [Sem.run_bind, run_underlying hu, Result.andThen_ok, hs]
  rw [if_neg (by decide)]
  simp only [Sem.run_bind, Result.andThen_ok, hz, Sem.run_pure, if_neg (show ¬ 199 * 2 = 0 by decide)]
  rw [h]
  rfl

theorem fill_one (k : Nat) (cells : Array Value) (a b : Value) (rest : List (Nat × Value)) (h : (k + 1) * 2 ≤ cells.size) :
    Instr.fill (fun i => some (i * 2, 2)) cells ((k, .agg #[a, b]) :: rest) = Instr.fill (fun i => some (i * 2, 2)) ((cells.setIfInBounds (k * 2) a).setIfInBounds (k * 2 + 1) b) rest := by
  have e : ¬ cells.size < k * 2 + 2 := by omega
  simp [Instr.fill, Value.cells, e]

theorem fill_rows : ∀ (l : List (Value × Value)) (k : Nat) (cells : Array Value), (k + l.length) * 2 ≤ cells.size →
    ∃ out, Instr.fill (fun i => some (i * 2, 2)) cells ((l.zipIdx k).map fun x => (x.2, Value.agg #[x.1.1, x.1.2])) = some out ∧ out.size = cells.size ∧
      (∀ x, x < k * 2 → out[x]? = cells[x]?) ∧ ∀ j v, l[j]? = some v → out[(k + j) * 2]? = some v.1 ∧ out[(k + j) * 2 + 1]? = some v.2 := by
  intro l
  induction l with
  | nil => intro k cells _; exact ⟨cells, rfl, rfl, fun _ _ => rfl, fun j v h => by simp at h⟩
  | cons p r ih =>
    intro k cells hc
    simp only [List.length_cons] at hc
    obtain ⟨out, h1, h2, h3, h4⟩ := ih (k + 1) ((cells.setIfInBounds (k * 2) p.1).setIfInBounds (k * 2 + 1) p.2) (by simp only [Array.size_setIfInBounds]; omega)
    refine ⟨out, ?_, ?_, ?_, ?_⟩
    · rw [← h1]
      simp only [List.zipIdx_cons, List.map_cons]
      exact fill_one _ _ _ _ _ (by omega)
    · simpa using h2
    · intro x hx
      rw [h3 x (by omega)]
      rw [Array.getElem?_setIfInBounds_ne (by omega), Array.getElem?_setIfInBounds_ne (by omega)]
    · intro j v hv
      cases j with
      | zero =>
        simp only [List.getElem?_cons_zero, Option.some.injEq] at hv
        subst hv
        refine ⟨?_, ?_⟩
        · rw [h3 _ (by omega)]
          rw [Array.getElem?_setIfInBounds_ne (by omega)]
          have e : k * 2 < cells.size := by omega
          simp [e]
        · rw [h3 _ (by omega)]
          have e : k * 2 + 1 < cells.size := by omega
          simp [e]
      | succ j =>
        simp only [List.getElem?_cons_succ] at hv
        have := h4 j v hv
        rw [show k + (j + 1) = k + 1 + j by omega]
        exact this

/-- The row of two cells. -/
def rowOf (p : Value × Value) : Value := .agg #[p.1, p.2]

/-- The parts of the slice, by the rows. -/
def partsOf (l : List (Value × Value)) : List (Nat × Value) := (l.zipIdx 0).map fun x => (x.2, Value.agg #[x.1.1, x.1.2])

/-- The cells of the slice, by the rows. -/
def cellsOf (l : List (Value × Value)) : Array Value := (Instr.fill (fun i => some (i * 2, 2)) blank (partsOf l)).getD #[]

theorem blank_size : blank.size = 398 := by simp [blank]

theorem fill_cells (l : List (Value × Value)) (hl : l.length = 199) : Instr.fill (fun i => some (i * 2, 2)) blank (partsOf l) = some (cellsOf l) := by
  obtain ⟨out, h, _⟩ := fill_rows l 0 blank (by rw [blank_size]; omega)
  unfold cellsOf partsOf
  rw [h]; rfl

theorem cells_at (l : List (Value × Value)) (hl : l.length = 199) (j : Nat) (v : Value × Value) (hv : l[j]? = some v) :
    (cellsOf l)[j * 2]? = some v.1 ∧ (cellsOf l)[j * 2 + 1]? = some v.2 := by
  obtain ⟨out, h, _, _, h4⟩ := fill_rows l 0 blank (by rw [blank_size]; omega)
  have e : cellsOf l = out := by unfold cellsOf partsOf; rw [h]; rfl
  have := h4 j v hv
  rw [Nat.zero_add] at this
  rw [e]; exact this

theorem wpOps_append {P : Program} {ops : Array Oper} {Q : Exit → Act → World → Prop} (l₁ l₂ : List Nat) :
    ∀ (a : Act) (w : World) (a' : Act) (w' : World), runOps P ops l₁ a w = some (a', w') → wpOps P ops Q l₂ a' w' → wpOps P ops Q (l₁ ++ l₂) a w := by
  induction l₁ with
  | nil =>
    intro a w a' w' h hq
    simp only [runOps, Option.some.injEq, Prod.mk.injEq] at h
    obtain ⟨rfl, rfl⟩ := h
    exact hq
  | cons i rest ih =>
    intro a w a' w' h hq
    simp only [runOps] at h
    simp only [List.cons_append, wpOps]
    cases ho : ops[i]? with
    | none => simp [ho] at h
    | some o =>
      simp only [ho] at h ⊢
      cases hw : Region.wanted o (yielded ops a.tmps) with
      | false => simp [hw] at h
      | true =>
        simp only [hw, if_true] at h ⊢
        refine .inl ?_
        unfold Oper.wp
        split at h
        · rename_i v w₁ hr
          rw [hr, Oper.upon_value]
          exact ih _ _ _ _ h hq
        · cases h

theorem pairs_of (F : Nat → Value) (n : Nat) : (List.range n).map (fun i => (i, F i)) = (((List.range n).map F).zipIdx 0).map fun x => (x.2, x.1) := by
  apply List.ext_getElem
  · simp
  · intro i h1 h2
    simp

/-- What the builds of a region leave: the rows, slot by slot. -/
def left (r : Option (Act × World)) : Option (List Deferred × Nat × List Value × World) :=
  r.map fun x => (x.1.defers, x.1.tmps.size, (List.range 199).map (fun i => x.1.tmps.getD (i + 1) undef), x.2)

theorem calls_rows {P : Program} {f : FuncId} {fn : Func} {t elem : TypeId} {ops0 ops1 : Array Oper} {n0 n1 : Nat} {a0 : Act} (l : List (Value × Value)) (hl : l.length = 199)
    (hf : P.funcs[f]? = some fn) (hb : fn.body = some (.seq (.region n0 ops0 false) (.seq (.region n1 ops1 false) .ret))) (hres : fn.results = #[.tmp 0])
    (w : World) (h0 : runOps P ops0 (List.range ops0.size) { tmps := #[] ++ Array.replicate (fn.ntmps - (#[] : Array Value).size) undef, defers := [] } w = some (a0, w))
    (hsize : ops1.size = 201) (h1 : left (runOps P ops1 (List.range 199) a0 w) = some ([], 201, l.map rowOf, w))
    (h199 : (ops1[199]?).map (fun o => (o.op, o.dst, o.guard)) = some (.buildSlice t 199 ((List.range 199).map fun i => (i, Operand.tmp (i + 1))).toArray, some 200, none))
    (h200 : (ops1[200]?).map (fun o => (o.op, o.dst, o.guard)) = some (.assign (.tmp 200), some 0, none))
    (hu : P.underlying t = some (.slice elem)) (hs : (sizeOf elem).run P w = .ok 2 w) (hz : (zeroValue elem).run P w = .ok (.agg #[.string ⟨#[]⟩, .int .i64 0]) w) :
    Calls P f #[] w fun e w' => e = .returned (.slice (some ⟨w.heap.size, 0, none⟩) 199 199) ∧ w' = w.alloc (.cells (cellsOf l) elem) := by
  obtain ⟨o, ho, he⟩ := Option.map_eq_some_iff.1 h199
  obtain ⟨o', ho', he'⟩ := Option.map_eq_some_iff.1 h200
  simp only [Prod.mk.injEq] at he he'
  obtain ⟨e1, e2, e3⟩ := he
  obtain ⟨e1', e2', e3'⟩ := he'
  unfold left at h1
  obtain ⟨⟨a1, w1⟩, hr, hx⟩ := Option.map_eq_some_iff.1 h1
  simp only [Prod.mk.injEq] at hx
  obtain ⟨hd, hn, hv, rfl⟩ := hx
  refine calls_of_wp hf hb (wp_seq (wp_region (wpOps_of_run _ _ _ _ _ h0 ?_)))
  refine (wp_seq (wp_region ?_) : Code.wp P _ _ a0 w1)
  rw [hsize, show List.range 201 = List.range 199 ++ [199, 200] by kernel_rfl]
  refine wpOps_append _ _ _ _ _ _ hr ?_
  have hw : ∀ y, Region.wanted o y = true := fun y => by unfold Region.wanted; rw [e3]
  have hw' : ∀ y, Region.wanted o' y = true := fun y => by unfold Region.wanted; rw [e3']
  have hp : (((List.range 199).map fun i => (i, Operand.tmp (i + 1))).toArray.map fun x => (x.1, a1.eval x.2)).toList = partsOf l := by
    have := pairs_of (fun i => a1.tmps.getD (i + 1) undef) 199
    simp only [List.map_toArray, List.map_map]
    refine Eq.trans ?_ (this.trans ?_)
    · rfl
    · rw [hv]
      unfold partsOf rowOf
      rw [List.zipIdx_map, List.map_map]
      rfl
  have hrun : (execOp a1.eval o).run P w1 = .ok (.value (.slice (some ⟨w1.heap.size, 0, none⟩) 199 199)) (w1.alloc (.cells (cellsOf l) elem)) := by
    have hrows := run_rows w1 hu hs hz _ (cellsOf l) (by rw [hp]; exact fill_cells l hl)
    unfold execOp
    rw [e1]
    simp only [Sem.run_bind, Sem.run_pure]
    rw [hrows]
    rfl
  simp only [wpOps, ho, ho', hw, hw', if_true]
  refine .inl ?_
  unfold Oper.wp
  rw [hrun, Oper.upon_value]
  refine .inl ?_
  have hrun' : (execOp (a1.put o.dst (.slice (some ⟨w1.heap.size, 0, none⟩) 199 199)).eval o').run P (w1.alloc (.cells (cellsOf l) elem)) = .ok (.value (.slice (some ⟨w1.heap.size, 0, none⟩) 199 199)) (w1.alloc (.cells (cellsOf l) elem)) := by
    unfold execOp
    rw [e1', e2]
    have : (a1.put (some 200) (.slice (some ⟨w1.heap.size, 0, none⟩) 199 199)).eval (.tmp 200) = .slice (some ⟨w1.heap.size, 0, none⟩) 199 199 := by
      simp [Act.put, Act.eval, hn]
    simp only [this]
    rfl
  rw [hrun', Oper.upon_value]
  refine wp_ret (bodyPost_ret (results_tmp hres _ _ _) ?_ ⟨?_, rfl⟩)
  · rw [e2, e2']; exact hd
  · rw [e2, e2']
    simp [Act.put, hn]

end Go.Proofs.Ytabkkbihcdcgfaa
