/-
  The walk of the law FnOps over any one table of 199 pairs that both calls lay: it returns true, whatever the number. Its conditions: what the two calls do, and that the table holds pairs.
-/
import Derived.Test.YtabkkbihcdcgfaaRows
import Derived.WalkKit
import Derived.ProofKit
import Derived.BigQuiet
import Derived.Deep.QuietTactic
namespace Go.Proofs.Ytabkkbihcdcgfaa
open Go Go.RowKit

set_option maxHeartbeats 1000000 in
theorem law_low (T : Array Value) (h4 : ∀ w, Calls Try.prog 4 #[] w fun e w' => e = .returned (.slice (some ⟨w.heap.size, 0, none⟩) 199 199) ∧ w' = w.alloc (.cells T 27))
    (h5 : ∀ w, Calls Try.prog 5 #[] w fun e w' => e = .returned (.slice (some ⟨w.heap.size, 0, none⟩) 199 199) ∧ w' = w.alloc (.cells T 28))
    (i : Int) (hi : i < 0) (w : World) :
    Calls Try.prog 3 #[.int .i64 i] w fun e w' => e = .returned (.bool true) ∧ w' = (w.alloc (.cells T 27)).alloc (.cells T 28) := by
  go_enter Try.func3, Try.ntmps3
  go_wp2_with (first | (go_at_call 4; refine (h4 _).mono ?_; rintro e w' ⟨rfl, rfl⟩) | (go_at_call 5; refine (h5 _).mono ?_; rintro e w' ⟨rfl, rfl⟩))
  go_ret
  exact ⟨rfl, rfl⟩

set_option maxHeartbeats 1000000 in
theorem law_high (T : Array Value) (h4 : ∀ w, Calls Try.prog 4 #[] w fun e w' => e = .returned (.slice (some ⟨w.heap.size, 0, none⟩) 199 199) ∧ w' = w.alloc (.cells T 27))
    (h5 : ∀ w, Calls Try.prog 5 #[] w fun e w' => e = .returned (.slice (some ⟨w.heap.size, 0, none⟩) 199 199) ∧ w' = w.alloc (.cells T 28))
    (i : Int) (hi : 199 ≤ i) (w : World) :
    Calls Try.prog 3 #[.int .i64 i] w fun e w' => e = .returned (.bool true) ∧ w' = (w.alloc (.cells T 27)).alloc (.cells T 28) := by
  go_enter Try.func3, Try.ntmps3
  go_wp2_with (first | (go_at_call 4; refine (h4 _).mono ?_; rintro e w' ⟨rfl, rfl⟩) | (go_at_call 5; refine (h5 _).mono ?_; rintro e w' ⟨rfl, rfl⟩))
  go_ret
  exact ⟨rfl, rfl⟩

set_option maxHeartbeats 1000000 in
theorem law_mid (T : Array Value) (h4 : ∀ w, Calls Try.prog 4 #[] w fun e w' => e = .returned (.slice (some ⟨w.heap.size, 0, none⟩) 199 199) ∧ w' = w.alloc (.cells T 27))
    (h5 : ∀ w, Calls Try.prog 5 #[] w fun e w' => e = .returned (.slice (some ⟨w.heap.size, 0, none⟩) 199 199) ∧ w' = w.alloc (.cells T 28))
    (k : Nat) (hk : k < 199) (s : ByteArray) (n : Int) (hs : T[k * 2]? = some (.string s)) (hn : T[k * 2 + 1]? = some (.int .i64 n)) (w : World) :
    Calls Try.prog 3 #[.int .i64 k] w fun e w' => e = .returned (.bool true) ∧ ∃ m, w' = ((w.alloc (.cells T 27)).alloc (.cells T 28)).drewN m := by
  go_enter Try.func3, Try.ntmps3
  go_wp2_with (first | (go_at_call 4; refine (h4 _).mono ?_; rintro e w' ⟨rfl, rfl⟩) | (go_at_call 5; refine (h5 _).mono ?_; rintro e w' ⟨rfl, rfl⟩))
  have hc1 : ((w.alloc (.cells T 27)).alloc (.cells T 28)).cell? ⟨w.heap.size, k * 2, none⟩ = some (.string s) := by
    rw [World.cell?_alloc_lt _ _ ⟨w.heap.size, k * 2, none⟩ (by simp)]
    simp [hs]
  have hc2 : ((w.alloc (.cells T 27)).alloc (.cells T 28)).cell? ⟨w.heap.size, k * 2 + 1, none⟩ = some (.int .i64 n) := by
    rw [World.cell?_alloc_lt _ _ ⟨w.heap.size, k * 2 + 1, none⟩ (by simp)]
    simp [hn]
  have hc3 : ((w.alloc (.cells T 27)).alloc (.cells T 28)).cell? ⟨w.heap.size + 1, k * 2, none⟩ = some (.string s) := by
    simp [hs]
  have hc4 : ((w.alloc (.cells T 27)).alloc (.cells T 28)).cell? ⟨w.heap.size + 1, k * 2 + 1, none⟩ = some (.int .i64 n) := by
    simp [hn]
  clear h4 h5
  go_quiet (fail)
  go_wp2_with fail
  go_ret
  exact ⟨rfl, nq, rfl⟩

end Go.Proofs.Ytabkkbihcdcgfaa
