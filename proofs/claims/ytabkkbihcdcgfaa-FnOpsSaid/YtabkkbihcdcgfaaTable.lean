/-
  The two tables of operations (package impl, package spec) as the two calls lay them: each call makes one new block of cells; both blocks hold the same 398 cells, by turns a name and a form. No condition.
-/
import Derived.Test.YtabkkbihcdcgfaaRowsOf
namespace Go.Proofs.Ytabkkbihcdcgfaa
open Go

/-- The operations of the first and of the second region of such a body. -/
def opsOf : Code → Array Oper × Array Oper
  | .seq (.region _ a _) (.seq (.region _ b _) _) => (a, b)
  | _ => (#[], #[])

noncomputable def ops4 : Array Oper × Array Oper := opsOf (Try.f4.body.getD .ret)
noncomputable def ops5 : Array Oper × Array Oper := opsOf (Try.f5.body.getD .ret)

/-- The frame behind the first region. -/
def begun : Act := { tmps := #[.slice none 0 0] ++ Array.replicate 200 undef, defers := [] }

/-- The rows of package impl's table, as its builds leave them. -/
noncomputable def table : List (Value × Value) :=
  match left (runOps Try.prog ops4.2 (List.range 199) begun default) with
  | some (_, _, vs, _) => vs.map fun v => (v.cells.getD 0 undef, v.cells.getD 1 undef)
  | none => []

/-- Whether all rows are a name and a form, and how many they are. -/
def fine : Nat → List (Value × Value) → Bool
  | 0, [] => true
  | n + 1, (.string _, .int .i64 _) :: r => fine n r
  | _, _ => false

theorem fine_at : ∀ (n : Nat) (l : List (Value × Value)), fine n l = true → l.length = n ∧ ∀ k, k < n → ∃ s m, l[k]? = some (.string s, .int .i64 m) := by
  intro n l
  fun_induction fine n l with
  | case1 => intro _; exact ⟨rfl, fun k hk => by omega⟩
  | case2 n s m r ih =>
    intro h
    obtain ⟨h1, h2⟩ := ih h
    refine ⟨by simp [h1], fun k hk => ?_⟩
    cases k with
    | zero => exact ⟨s, m, rfl⟩
    | succ k =>
      obtain ⟨s', m', h3⟩ := h2 k (by omega)
      exact ⟨s', m', by simpa using h3⟩
  | case3 => intro h; cases h

theorem table_fine : fine 199 table = true := by kernel_rfl

theorem left4 (w : World) : left (runOps Try.prog ops4.2 (List.range 199) begun w) = some ([], 201, table.map rowOf, w) := by kernel_rfl
theorem left5 (w : World) : left (runOps Try.prog ops5.2 (List.range 199) begun w) = some ([], 201, table.map rowOf, w) := by kernel_rfl

/-- A call of package impl's Ops. -/
theorem impl_ops (w : World) : Calls Try.prog 4 #[] w fun e w' => e = .returned (.slice (some ⟨w.heap.size, 0, none⟩) 199 199) ∧ w' = w.alloc (.cells (cellsOf table) 27) :=
  calls_rows (t := 22) (ops0 := ops4.1) (ops1 := ops4.2) (n0 := 0) (n1 := 1) (a0 := begun) table (fine_at 199 table table_fine).1 Try.func4 (by kernel_rfl) (by kernel_rfl) w (by kernel_rfl) (by kernel_rfl) (left4 w)
    (by kernel_rfl) (by kernel_rfl) Try.underlying22 (by kernel_rfl) (by kernel_rfl)

/-- A call of package spec's Ops: the same cells. -/
theorem spec_ops (w : World) : Calls Try.prog 5 #[] w fun e w' => e = .returned (.slice (some ⟨w.heap.size, 0, none⟩) 199 199) ∧ w' = w.alloc (.cells (cellsOf table) 28) :=
  calls_rows (t := 24) (ops0 := ops5.1) (ops1 := ops5.2) (n0 := 0) (n1 := 1) (a0 := begun) table (fine_at 199 table table_fine).1 Try.func5 (by kernel_rfl) (by kernel_rfl) w (by kernel_rfl) (by kernel_rfl) (left5 w)
    (by kernel_rfl) (by kernel_rfl) Try.underlying24 (by kernel_rfl) (by kernel_rfl)

/-- What lies at the place k of the table's cells. -/
theorem table_at (k : Nat) (hk : k < 199) : ∃ s n, (cellsOf table)[k * 2]? = some (.string s) ∧ (cellsOf table)[k * 2 + 1]? = some (.int .i64 n) := by
  obtain ⟨hl, h⟩ := fine_at 199 table table_fine
  obtain ⟨s, n, hs⟩ := h k hk
  have := cells_at table hl k _ hs
  exact ⟨s, n, this⟩

end Go.Proofs.Ytabkkbihcdcgfaa
