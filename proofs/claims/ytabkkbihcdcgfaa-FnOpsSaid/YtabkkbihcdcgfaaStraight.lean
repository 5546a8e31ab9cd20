/-
  A straight-line function (regions without a draw, whose operations end with a value at once, then a return) is run by a plain Lean function; what that function answers is what the call does. No condition but the equation itself.
-/
import Derived.Test.YtabkkbihcdcgfaaRows
import Derived.WalkKit
import Derived.ProofKit
namespace Go.Proofs.Ytabkkbihcdcgfaa
open Go

/-- The operations with the numbers of a list, each of which answers a value at once. -/
def runOps (P : Program) (ops : Array Oper) : List Nat → Act → World → Option (Act × World)
  | [], a, w => some (a, w)
  | i :: rest, a, w =>
    match ops[i]? with
    | none => none
    | some o =>
      match Region.wanted o (yielded ops a.tmps) with
      | false => none
      | true =>
        match (execOp a.eval o).run P w with
        | .ok (.value v) w' => runOps P ops rest (a.put o.dst v) w'
        | _ => none

theorem wpOps_of_run {P : Program} {ops : Array Oper} {Q : Exit → Act → World → Prop} (l : List Nat) :
    ∀ (a : Act) (w : World) (a' : Act) (w' : World), runOps P ops l a w = some (a', w') → Q .normal a' w' → wpOps P ops Q l a w := by
  induction l with
  | nil =>
    intro a w a' w' h hq
    simp only [runOps, Option.some.injEq, Prod.mk.injEq] at h
    obtain ⟨rfl, rfl⟩ := h
    exact hq
  | cons i rest ih =>
    intro a w a' w' h hq
    simp only [runOps] at h
    simp only [wpOps]
    cases ho : ops[i]? with
    | none => simp [ho] at h
    | some o =>
      simp only [ho] at h ⊢
      cases hw : Region.wanted o (yielded ops a.tmps) with
      | false => simp [hw] at h
      | true =>
        simp only [hw, if_true] at h ⊢
        refine .inl ?_
        unfold Oper.wp
        split at h
        · rename_i v w₁ hr
          rw [hr, Oper.upon_value]
          exact ih _ _ _ _ h hq
        · cases h

/-- A body of such regions, then a return. -/
def straight (P : Program) : Code → Act → World → Option (Act × World)
  | .seq (.region _ ops false) y, a, w =>
    match runOps P ops (List.range ops.size) a w with
    | some (a', w') => straight P y a' w'
    | none => none
  | .ret, a, w => some (a, w)
  | _, _, _ => none

theorem wp_of_straight {P : Program} {Q : Exit → Act → World → Prop} : ∀ (c : Code) (a : Act) (w : World) (a' : Act) (w' : World),
    straight P c a w = some (a', w') → Q .ret a' w' → c.wp P Q a w := by
  intro c a w
  fun_induction straight P c a w with
  | case1 n ops y a w a₁ w₁ hr ih =>
    intro a' w' h hq
    refine wp_seq (wp_region (wpOps_of_run _ _ _ _ _ hr ?_))
    exact ih _ _ h hq
  | case2 => intro a' w' h; cases h
  | case3 a w =>
    intro a' w' h hq
    simp only [Option.some.injEq, Prod.mk.injEq] at h
    obtain ⟨rfl, rfl⟩ := h
    exact wp_ret hq
  | case4 => intro a' w' h; cases h

/-- What a call of a function with such a body and one result does. -/
theorem calls_of_straight {P : Program} {f : FuncId} {fn : Func} {c : Code} {args : Array Value} {w w' : World} {v : Value} {t : Tmp} {R : Ending → World → Prop}
    (hf : P.funcs[f]? = some fn) (hb : fn.body = some c) (hres : fn.results = #[.tmp t])
    (h : (straight P c { tmps := args ++ Array.replicate (fn.ntmps - args.size) undef, defers := [] } w).map (fun r => (r.1.defers, r.1.tmps.getD t undef, r.2)) = some ([], v, w'))
    (hR : R (.returned v) w') : Calls P f args w R := by
  obtain ⟨⟨a', w₁⟩, hs, he⟩ := Option.map_eq_some_iff.1 h
  simp only [Prod.mk.injEq] at he
  obtain ⟨hd, rfl, rfl⟩ := he
  exact calls_of_wp hf hb (wp_of_straight c _ w a' w₁ hs (bodyPost_ret (results_tmp hres _ _ _) hd hR))

end Go.Proofs.Ytabkkbihcdcgfaa
