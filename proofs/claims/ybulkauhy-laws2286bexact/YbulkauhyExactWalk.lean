/-
  The walk of 'agent.LawS2286BExact' out of the two contracts.
-/
import Derived.Test.YbulkauhyAnswered
import Derived.Test.YbulkauhyModel
namespace Go.Proofs.Ybulkauhy.Fl
open Go.ChangeShapes Go.WideShapes Go.ChangeAt Go.RowKit
theorem blk_kept {b : Nat} {o : Obj} {w w' : World} (h : w.heap[b]? = some o) (hk : Kept w.heap.size w w') : w'.heap[b]? = some o := by
  have hl : b < w.heap.size := by
    rcases Nat.lt_or_ge b w.heap.size with h' | h'
    · exact h'
    · rw [Array.getElem?_eq_none h'] at h; cases h
  rw [hk.block b hl (by omega)]; exact h
set_option maxHeartbeats 400000 in
theorem exact_any (lim most slow cnt lst cut at' n now L C T : Int) (w : World)
    (Ha : Hid (∀ w0 : World, w0.heap[w.heap.size]? = some (.cells #[.int .i64 lim, .int .i64 most, .int .i64 slow, .int .i64 cnt, .int .i64 lst, .int .i64 cut] 36) →
      Calls Yba.prog 12 #[.pointer (some ⟨w.heap.size, 0, none⟩), .agg #[.int .i64 at', .int .i64 n], .int .i64 now] w0 fun e w' => e = .returned (.tuple #[]) ∧ Left w.heap.size #[.int .i64 L, .int .i64 most, .int .i64 slow, .int .i64 C, .int .i64 T, .int .i64 cut] w0 w'))
    (Hm : Hid (∀ w0 : World, Calls Yba.prog 13 #[.int .i64 lim, .int .i64 most, .int .i64 slow, .int .i64 cnt, .int .i64 lst, .int .i64 cut, .int .i64 at', .int .i64 n, .int .i64 now] w0 fun e w' =>
      e = .returned (.agg #[.int .i64 L, .int .i64 most, .int .i64 slow, .int .i64 C, .int .i64 T, .int .i64 cut]) ∧ Kept w0.heap.size w0 w')) :
    Calls Yba.prog 5 #[.int .i64 lim, .int .i64 most, .int .i64 slow, .int .i64 cnt, .int .i64 lst, .int .i64 cut, .int .i64 at', .int .i64 n, .int .i64 now] w fun e w' => e = .returned (.bool true) ∧ Grown w w' := by
  go_enter Yba.func5, Yba.ntmps5
  go_wp2_with fail
  refine (Ha.out _ ?_).mono ?_
  · exact (MapKept.heap_alloc w _).1
  rintro e w1 ⟨rfl, ⟨c, hc, rfl⟩, hk⟩
  go_wp2_with fail
  refine (Hm.out _).mono ?_
  rintro e w2 ⟨rfl, hk2⟩
  have hG : Hid (Grown w w2) := Kept.grown (Kept.grown ((Grown.refl _).alloc _ _) hk (Nat.le_refl _)) hk2 (Nat.le_of_lt (facts hc).1)
  obtain ⟨hl, q0, q1, q2, q3, q4, q5, hf⟩ := facts (blk_kept hc hk2)
  clear hc hk hk2 Hm Ha
  have hne : (w.heap.size == w2.heap.size) = false := by simp; omega
  go_wp2_with fail
  go_ret
  exact ⟨rfl, Grown.alloc hG.out _ _⟩
theorem exact_walk (lim most slow cnt lst cut at' n now : Int) (w : World) :
    Calls Yba.prog 5 #[.int .i64 lim, .int .i64 most, .int .i64 slow, .int .i64 cnt, .int .i64 lst, .int .i64 cut, .int .i64 at', .int .i64 n, .int .i64 now] w fun e w' => e = .returned (.bool true) ∧ Grown w w' := by
  by_cases hn : n = 1
  · subst hn
    exact exact_any lim most slow cnt lst cut at' 1 now _ _ _ w (fun w0 h0 => answered w.heap.size lim most slow cnt lst cut at' now w0 h0) (fun w0 => model_one lim most slow cnt lst cut at' now w0)
  · have hn' : (n == 1) = false := by simpa using hn
    exact exact_any lim most slow cnt lst cut at' n now _ _ _ w (fun w0 h0 => answered_no w.heap.size _ at' n now w0 h0 hn') (fun w0 => model_no lim most slow cnt lst cut at' n now w0 hn')
end Go.Proofs.Ybulkauhy.Fl
