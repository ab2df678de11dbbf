/-
  'agent.zzs2286bmodel' walked: the same ten ways as 'answered' has, then one contract.
-/
import Derived.Test.YbulkauhyFlight
namespace Go.Proofs.Ybulkauhy.Fl
open Go.ChangeShapes Go.WideShapes Go.ChangeAt Go.RowKit

set_option maxHeartbeats 400000 in
theorem model_no (lim most slow cnt lst cut at' n now : Int) (w : World) (hn : (n == 1) = false) :
    Calls Yba.prog 13 #[.int .i64 lim, .int .i64 most, .int .i64 slow, .int .i64 cnt, .int .i64 lst, .int .i64 cut, .int .i64 at', .int .i64 n, .int .i64 now] w fun e w' =>
      e = .returned (.agg #[.int .i64 lim, .int .i64 most, .int .i64 slow, .int .i64 cnt, .int .i64 lst, .int .i64 cut]) ∧ Kept w.heap.size w w' := by
  go_enter Yba.func13, Yba.ntmps13
  go_wp2
  go_returns
  exact ⟨rfl, ((Kept.refl _ _).alloc _ _).alloc _ _⟩
set_option maxHeartbeats 400000 in
theorem mod1r (lim most slow cnt lst cut at' now : Int) (w : World) (hA : (lst == 0) = true) (hB : wrap64 (now - at') < 1) (hD : ¬ most ≤ lim) :
    Calls Yba.prog 13 #[.int .i64 lim, .int .i64 most, .int .i64 slow, .int .i64 cnt, .int .i64 lst, .int .i64 cut, .int .i64 at', .int .i64 1, .int .i64 now] w fun e w' =>
      e = .returned (.agg #[.int .i64 (nLim lim most slow cnt 1 (wrap64 (now - at'))), .int .i64 most, .int .i64 slow, .int .i64 (nCnt lim most slow cnt 1 (wrap64 (now - at'))), .int .i64 1, .int .i64 cut]) ∧ Kept w.heap.size w w' := by
  go_enter Yba.func13, Yba.ntmps13
  go_wp2
  all_goals go_returns
  all_goals (
    refine ⟨?_, ((Kept.refl _ _).alloc _ _).alloc _ _⟩
    have w21 : wrap64 (2 * 1) = 2 := by unfold wrap64; omega
    have w22 : wrap64 (1 + 1) = wrap64 (2 * 1) := by rw [Int.two_mul]
    simp
    unfold nLim nCnt
    refine ⟨?_, ?_⟩
    all_goals (repeat' split) <;> omega)
set_option maxHeartbeats 400000 in
theorem mod1f (lim most slow cnt lst cut at' now : Int) (w : World) (hA : (lst == 0) = true) (hB : wrap64 (now - at') < 1) (hD : most ≤ lim) :
    Calls Yba.prog 13 #[.int .i64 lim, .int .i64 most, .int .i64 slow, .int .i64 cnt, .int .i64 lst, .int .i64 cut, .int .i64 at', .int .i64 1, .int .i64 now] w fun e w' =>
      e = .returned (.agg #[.int .i64 (nLim lim most slow cnt 1 (wrap64 (now - at'))), .int .i64 most, .int .i64 slow, .int .i64 (nCnt lim most slow cnt 1 (wrap64 (now - at'))), .int .i64 1, .int .i64 cut]) ∧ Kept w.heap.size w w' := by
  go_enter Yba.func13, Yba.ntmps13
  go_wp2
  all_goals go_returns
  all_goals (
    refine ⟨?_, ((Kept.refl _ _).alloc _ _).alloc _ _⟩
    have w21 : wrap64 (2 * 1) = 2 := by unfold wrap64; omega
    have w22 : wrap64 (1 + 1) = wrap64 (2 * 1) := by rw [Int.two_mul]
    simp
    unfold nLim nCnt
    refine ⟨?_, ?_⟩
    all_goals (repeat' split) <;> omega)
set_option maxHeartbeats 400000 in
theorem mod2r (lim most slow cnt lst cut at' now : Int) (w : World) (hA : (lst == 0) = true) (hB : ¬ wrap64 (now - at') < 1) (hD : ¬ most ≤ lim) :
    Calls Yba.prog 13 #[.int .i64 lim, .int .i64 most, .int .i64 slow, .int .i64 cnt, .int .i64 lst, .int .i64 cut, .int .i64 at', .int .i64 1, .int .i64 now] w fun e w' =>
      e = .returned (.agg #[.int .i64 (nLim lim most slow cnt (wrap64 (now - at')) (wrap64 (now - at'))), .int .i64 most, .int .i64 slow, .int .i64 (nCnt lim most slow cnt (wrap64 (now - at')) (wrap64 (now - at'))), .int .i64 (wrap64 (now - at')), .int .i64 cut]) ∧ Kept w.heap.size w w' := by
  go_enter Yba.func13, Yba.ntmps13
  go_wp2
  all_goals go_returns
  all_goals (
    refine ⟨?_, ((Kept.refl _ _).alloc _ _).alloc _ _⟩
    have w21 : wrap64 (2 * 1) = 2 := by unfold wrap64; omega
    have w22 : wrap64 ((wrap64 (now - at')) + (wrap64 (now - at'))) = wrap64 (2 * (wrap64 (now - at'))) := by rw [Int.two_mul]
    simp
    unfold nLim nCnt
    refine ⟨?_, ?_⟩
    all_goals (repeat' split) <;> omega)
set_option maxHeartbeats 400000 in
theorem mod2f (lim most slow cnt lst cut at' now : Int) (w : World) (hA : (lst == 0) = true) (hB : ¬ wrap64 (now - at') < 1) (hD : most ≤ lim) :
    Calls Yba.prog 13 #[.int .i64 lim, .int .i64 most, .int .i64 slow, .int .i64 cnt, .int .i64 lst, .int .i64 cut, .int .i64 at', .int .i64 1, .int .i64 now] w fun e w' =>
      e = .returned (.agg #[.int .i64 (nLim lim most slow cnt (wrap64 (now - at')) (wrap64 (now - at'))), .int .i64 most, .int .i64 slow, .int .i64 (nCnt lim most slow cnt (wrap64 (now - at')) (wrap64 (now - at'))), .int .i64 (wrap64 (now - at')), .int .i64 cut]) ∧ Kept w.heap.size w w' := by
  go_enter Yba.func13, Yba.ntmps13
  go_wp2
  all_goals go_returns
  all_goals (
    refine ⟨?_, ((Kept.refl _ _).alloc _ _).alloc _ _⟩
    have w21 : wrap64 (2 * 1) = 2 := by unfold wrap64; omega
    have w22 : wrap64 ((wrap64 (now - at')) + (wrap64 (now - at'))) = wrap64 (2 * (wrap64 (now - at'))) := by rw [Int.two_mul]
    simp
    unfold nLim nCnt
    refine ⟨?_, ?_⟩
    all_goals (repeat' split) <;> omega)
set_option maxHeartbeats 400000 in
theorem mod3r (lim most slow cnt lst cut at' now : Int) (w : World) (hA : (lst == 0) = false) (hA2 : wrap64 (now - at') < lst) (hB : wrap64 (now - at') < 1) (hD : ¬ most ≤ lim) :
    Calls Yba.prog 13 #[.int .i64 lim, .int .i64 most, .int .i64 slow, .int .i64 cnt, .int .i64 lst, .int .i64 cut, .int .i64 at', .int .i64 1, .int .i64 now] w fun e w' =>
      e = .returned (.agg #[.int .i64 (nLim lim most slow cnt 1 (wrap64 (now - at'))), .int .i64 most, .int .i64 slow, .int .i64 (nCnt lim most slow cnt 1 (wrap64 (now - at'))), .int .i64 1, .int .i64 cut]) ∧ Kept w.heap.size w w' := by
  go_enter Yba.func13, Yba.ntmps13
  go_wp2
  all_goals go_returns
  all_goals (
    refine ⟨?_, ((Kept.refl _ _).alloc _ _).alloc _ _⟩
    have w21 : wrap64 (2 * 1) = 2 := by unfold wrap64; omega
    have w22 : wrap64 (1 + 1) = wrap64 (2 * 1) := by rw [Int.two_mul]
    simp
    unfold nLim nCnt
    refine ⟨?_, ?_⟩
    all_goals (repeat' split) <;> omega)
set_option maxHeartbeats 400000 in
theorem mod3f (lim most slow cnt lst cut at' now : Int) (w : World) (hA : (lst == 0) = false) (hA2 : wrap64 (now - at') < lst) (hB : wrap64 (now - at') < 1) (hD : most ≤ lim) :
    Calls Yba.prog 13 #[.int .i64 lim, .int .i64 most, .int .i64 slow, .int .i64 cnt, .int .i64 lst, .int .i64 cut, .int .i64 at', .int .i64 1, .int .i64 now] w fun e w' =>
      e = .returned (.agg #[.int .i64 (nLim lim most slow cnt 1 (wrap64 (now - at'))), .int .i64 most, .int .i64 slow, .int .i64 (nCnt lim most slow cnt 1 (wrap64 (now - at'))), .int .i64 1, .int .i64 cut]) ∧ Kept w.heap.size w w' := by
  go_enter Yba.func13, Yba.ntmps13
  go_wp2
  all_goals go_returns
  all_goals (
    refine ⟨?_, ((Kept.refl _ _).alloc _ _).alloc _ _⟩
    have w21 : wrap64 (2 * 1) = 2 := by unfold wrap64; omega
    have w22 : wrap64 (1 + 1) = wrap64 (2 * 1) := by rw [Int.two_mul]
    simp
    unfold nLim nCnt
    refine ⟨?_, ?_⟩
    all_goals (repeat' split) <;> omega)
set_option maxHeartbeats 400000 in
theorem mod4r (lim most slow cnt lst cut at' now : Int) (w : World) (hA : (lst == 0) = false) (hA2 : wrap64 (now - at') < lst) (hB : ¬ wrap64 (now - at') < 1) (hD : ¬ most ≤ lim) :
    Calls Yba.prog 13 #[.int .i64 lim, .int .i64 most, .int .i64 slow, .int .i64 cnt, .int .i64 lst, .int .i64 cut, .int .i64 at', .int .i64 1, .int .i64 now] w fun e w' =>
      e = .returned (.agg #[.int .i64 (nLim lim most slow cnt (wrap64 (now - at')) (wrap64 (now - at'))), .int .i64 most, .int .i64 slow, .int .i64 (nCnt lim most slow cnt (wrap64 (now - at')) (wrap64 (now - at'))), .int .i64 (wrap64 (now - at')), .int .i64 cut]) ∧ Kept w.heap.size w w' := by
  go_enter Yba.func13, Yba.ntmps13
  go_wp2
  all_goals go_returns
  all_goals (
    refine ⟨?_, ((Kept.refl _ _).alloc _ _).alloc _ _⟩
    have w21 : wrap64 (2 * 1) = 2 := by unfold wrap64; omega
    have w22 : wrap64 ((wrap64 (now - at')) + (wrap64 (now - at'))) = wrap64 (2 * (wrap64 (now - at'))) := by rw [Int.two_mul]
    simp
    unfold nLim nCnt
    refine ⟨?_, ?_⟩
    all_goals (repeat' split) <;> omega)
set_option maxHeartbeats 400000 in
theorem mod4f (lim most slow cnt lst cut at' now : Int) (w : World) (hA : (lst == 0) = false) (hA2 : wrap64 (now - at') < lst) (hB : ¬ wrap64 (now - at') < 1) (hD : most ≤ lim) :
    Calls Yba.prog 13 #[.int .i64 lim, .int .i64 most, .int .i64 slow, .int .i64 cnt, .int .i64 lst, .int .i64 cut, .int .i64 at', .int .i64 1, .int .i64 now] w fun e w' =>
      e = .returned (.agg #[.int .i64 (nLim lim most slow cnt (wrap64 (now - at')) (wrap64 (now - at'))), .int .i64 most, .int .i64 slow, .int .i64 (nCnt lim most slow cnt (wrap64 (now - at')) (wrap64 (now - at'))), .int .i64 (wrap64 (now - at')), .int .i64 cut]) ∧ Kept w.heap.size w w' := by
  go_enter Yba.func13, Yba.ntmps13
  go_wp2
  all_goals go_returns
  all_goals (
    refine ⟨?_, ((Kept.refl _ _).alloc _ _).alloc _ _⟩
    have w21 : wrap64 (2 * 1) = 2 := by unfold wrap64; omega
    have w22 : wrap64 ((wrap64 (now - at')) + (wrap64 (now - at'))) = wrap64 (2 * (wrap64 (now - at'))) := by rw [Int.two_mul]
    simp
    unfold nLim nCnt
    refine ⟨?_, ?_⟩
    all_goals (repeat' split) <;> omega)
set_option maxHeartbeats 400000 in
theorem mod5r (lim most slow cnt lst cut at' now : Int) (w : World) (hA : (lst == 0) = false) (hA2 : ¬ wrap64 (now - at') < lst) (hD : ¬ most ≤ lim) :
    Calls Yba.prog 13 #[.int .i64 lim, .int .i64 most, .int .i64 slow, .int .i64 cnt, .int .i64 lst, .int .i64 cut, .int .i64 at', .int .i64 1, .int .i64 now] w fun e w' =>
      e = .returned (.agg #[.int .i64 (nLim lim most slow cnt lst (wrap64 (now - at'))), .int .i64 most, .int .i64 slow, .int .i64 (nCnt lim most slow cnt lst (wrap64 (now - at'))), .int .i64 lst, .int .i64 cut]) ∧ Kept w.heap.size w w' := by
  go_enter Yba.func13, Yba.ntmps13
  go_wp2
  all_goals go_returns
  all_goals (
    refine ⟨?_, ((Kept.refl _ _).alloc _ _).alloc _ _⟩
    have w21 : wrap64 (2 * 1) = 2 := by unfold wrap64; omega
    have w22 : wrap64 (lst + lst) = wrap64 (2 * lst) := by rw [Int.two_mul]
    simp
    unfold nLim nCnt
    refine ⟨?_, ?_⟩
    all_goals (repeat' split) <;> omega)
set_option maxHeartbeats 400000 in
theorem mod5f (lim most slow cnt lst cut at' now : Int) (w : World) (hA : (lst == 0) = false) (hA2 : ¬ wrap64 (now - at') < lst) (hD : most ≤ lim) :
    Calls Yba.prog 13 #[.int .i64 lim, .int .i64 most, .int .i64 slow, .int .i64 cnt, .int .i64 lst, .int .i64 cut, .int .i64 at', .int .i64 1, .int .i64 now] w fun e w' =>
      e = .returned (.agg #[.int .i64 (nLim lim most slow cnt lst (wrap64 (now - at'))), .int .i64 most, .int .i64 slow, .int .i64 (nCnt lim most slow cnt lst (wrap64 (now - at'))), .int .i64 lst, .int .i64 cut]) ∧ Kept w.heap.size w w' := by
  go_enter Yba.func13, Yba.ntmps13
  go_wp2
  all_goals go_returns
  all_goals (
    refine ⟨?_, ((Kept.refl _ _).alloc _ _).alloc _ _⟩
    have w21 : wrap64 (2 * 1) = 2 := by unfold wrap64; omega
    have w22 : wrap64 (lst + lst) = wrap64 (2 * lst) := by rw [Int.two_mul]
    simp
    unfold nLim nCnt
    refine ⟨?_, ?_⟩
    all_goals (repeat' split) <;> omega)

/-- The model at a first try. -/
theorem model_one (lim most slow cnt lst cut at' now : Int) (w : World) :
    Calls Yba.prog 13 #[.int .i64 lim, .int .i64 most, .int .i64 slow, .int .i64 cnt, .int .i64 lst, .int .i64 cut, .int .i64 at', .int .i64 1, .int .i64 now] w fun e w' =>
      e = .returned (.agg #[.int .i64 (nLim lim most slow cnt (nLst lst (wrap64 (now - at'))) (wrap64 (now - at'))), .int .i64 most, .int .i64 slow, .int .i64 (nCnt lim most slow cnt (nLst lst (wrap64 (now - at'))) (wrap64 (now - at'))), .int .i64 (nLst lst (wrap64 (now - at'))), .int .i64 cut]) ∧ Kept w.heap.size w w' := by
  by_cases hD : most ≤ lim
  · by_cases hA : lst = 0
    · by_cases hB : wrap64 (now - at') < 1
      · rw [nLst_1 hA hB]; exact mod1f lim most slow cnt lst cut at' now w (by simp [hA]) hB hD
      · rw [nLst_2 hA hB]; exact mod2f lim most slow cnt lst cut at' now w (by simp [hA]) hB hD
    · by_cases hA2 : wrap64 (now - at') < lst
      · by_cases hB : wrap64 (now - at') < 1
        · rw [nLst_3 hA2 hB]; exact mod3f lim most slow cnt lst cut at' now w (by simp [hA]) hA2 hB hD
        · rw [nLst_4 hA2 hB]; exact mod4f lim most slow cnt lst cut at' now w (by simp [hA]) hA2 hB hD
      · rw [nLst_5 hA hA2]; exact mod5f lim most slow cnt lst cut at' now w (by simp [hA]) hA2 hD
  · by_cases hA : lst = 0
    · by_cases hB : wrap64 (now - at') < 1
      · rw [nLst_1 hA hB]; exact mod1r lim most slow cnt lst cut at' now w (by simp [hA]) hB hD
      · rw [nLst_2 hA hB]; exact mod2r lim most slow cnt lst cut at' now w (by simp [hA]) hB hD
    · by_cases hA2 : wrap64 (now - at') < lst
      · by_cases hB : wrap64 (now - at') < 1
        · rw [nLst_3 hA2 hB]; exact mod3r lim most slow cnt lst cut at' now w (by simp [hA]) hA2 hB hD
        · rw [nLst_4 hA2 hB]; exact mod4r lim most slow cnt lst cut at' now w (by simp [hA]) hA2 hB hD
      · rw [nLst_5 hA hA2]; exact mod5r lim most slow cnt lst cut at' now w (by simp [hA]) hA2 hD
end Go.Proofs.Ybulkauhy.Fl
