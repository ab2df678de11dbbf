/-
  '(*agent.flight).answered' walked: ten ways (the least round trip: five; room or none: two), then one contract.
-/
import Derived.Test.YbulkauhyFlight
namespace Go.Proofs.Ybulkauhy.Fl
open Go.ChangeShapes Go.WideShapes Go.ChangeAt Go.RowKit

set_option maxHeartbeats 400000 in
theorem ans1r (b : Nat) (lim most slow cnt lst cut at' now : Int) (w : World) (hb : w.heap[b]? = some (.cells #[.int .i64 lim, .int .i64 most, .int .i64 slow, .int .i64 cnt, .int .i64 lst, .int .i64 cut] 36))
    (hA : (lst == 0) = true) (hB : wrap64 (now - at') < 1) (hD : decide (most ≤ lim) = false) :
    Calls Yba.prog 12 #[.pointer (some ⟨b, 0, none⟩), .agg #[.int .i64 at', .int .i64 1], .int .i64 now] w fun e w' => e = .returned (.tuple #[]) ∧
      Left b #[.int .i64 (nLim lim most slow cnt 1 (wrap64 (now - at'))), .int .i64 most, .int .i64 slow, .int .i64 (nCnt lim most slow cnt 1 (wrap64 (now - at'))), .int .i64 1, .int .i64 cut] w w' := by
  obtain ⟨hl, q0, q1, q2, q3, q4, q5, hf⟩ := facts hb
  have HB : Hid (w.heap[b]? = some (.cells #[.int .i64 lim, .int .i64 most, .int .i64 slow, .int .i64 cnt, .int .i64 lst, .int .i64 cut] 36)) := hb
  clear hb
  have hm : ¬ most ≤ lim := by simpa using hD
  have hne : (b == w.heap.size) = false := by simp; omega
  go_enter Yba.func12, Yba.ntmps12
  go_wp2
  all_goals go_quiet (fail)
  all_goals go_wp2
  all_goals try (go_quiet (fail); go_wp2)
  all_goals try (go_quiet (fail); go_wp2)
  all_goals go_returns
  all_goals (
    refine And.intro rfl ?_
    apply left_mk
    · repeat (first | (with_reducible exact HB.out) | (with_reducible apply blk_set) | (with_reducible apply blk_drewN) | (with_reducible apply blk_drew) | (with_reducible apply blk_alloc))
    · simp
      have w21 : wrap64 (2 * 1) = 2 := by unfold wrap64; omega
      unfold nLim nCnt
      refine ⟨?_, ?_⟩
      all_goals (repeat' split) <;> omega
    · repeat (first | (with_reducible exact Kept.refl _ _) | (with_reducible apply Kept.setIn) | (with_reducible apply Kept.drewN) | (with_reducible apply Kept.drew) | (with_reducible apply Kept.alloc)))
set_option maxHeartbeats 400000 in
theorem ans1f (b : Nat) (lim most slow cnt lst cut at' now : Int) (w : World) (hb : w.heap[b]? = some (.cells #[.int .i64 lim, .int .i64 most, .int .i64 slow, .int .i64 cnt, .int .i64 lst, .int .i64 cut] 36))
    (hA : (lst == 0) = true) (hB : wrap64 (now - at') < 1) (hD : most ≤ lim) :
    Calls Yba.prog 12 #[.pointer (some ⟨b, 0, none⟩), .agg #[.int .i64 at', .int .i64 1], .int .i64 now] w fun e w' => e = .returned (.tuple #[]) ∧
      Left b #[.int .i64 (nLim lim most slow cnt 1 (wrap64 (now - at'))), .int .i64 most, .int .i64 slow, .int .i64 (nCnt lim most slow cnt 1 (wrap64 (now - at'))), .int .i64 1, .int .i64 cut] w w' := by
  obtain ⟨hl, q0, q1, q2, q3, q4, q5, hf⟩ := facts hb
  have HB : Hid (w.heap[b]? = some (.cells #[.int .i64 lim, .int .i64 most, .int .i64 slow, .int .i64 cnt, .int .i64 lst, .int .i64 cut] 36)) := hb
  clear hb
  have hne : (b == w.heap.size) = false := by simp; omega
  go_enter Yba.func12, Yba.ntmps12
  go_wp2
  all_goals go_quiet (fail)
  all_goals go_wp2
  all_goals go_returns
  all_goals (
    refine And.intro rfl ?_
    apply left_mk
    · repeat (first | (with_reducible exact HB.out) | (with_reducible apply blk_set) | (with_reducible apply blk_drewN) | (with_reducible apply blk_drew) | (with_reducible apply blk_alloc))
    · simp
      have w21 : wrap64 (2 * 1) = 2 := by unfold wrap64; omega
      unfold nLim nCnt
      refine ⟨?_, ?_⟩
      all_goals (repeat' split) <;> omega
    · repeat (first | (with_reducible exact Kept.refl _ _) | (with_reducible apply Kept.setIn) | (with_reducible apply Kept.drewN) | (with_reducible apply Kept.drew) | (with_reducible apply Kept.alloc)))
set_option maxHeartbeats 400000 in
theorem ans2r (b : Nat) (lim most slow cnt lst cut at' now : Int) (w : World) (hb : w.heap[b]? = some (.cells #[.int .i64 lim, .int .i64 most, .int .i64 slow, .int .i64 cnt, .int .i64 lst, .int .i64 cut] 36))
    (hA : (lst == 0) = true) (hB : ¬ wrap64 (now - at') < 1) (hD : decide (most ≤ lim) = false) :
    Calls Yba.prog 12 #[.pointer (some ⟨b, 0, none⟩), .agg #[.int .i64 at', .int .i64 1], .int .i64 now] w fun e w' => e = .returned (.tuple #[]) ∧
      Left b #[.int .i64 (nLim lim most slow cnt (wrap64 (now - at')) (wrap64 (now - at'))), .int .i64 most, .int .i64 slow, .int .i64 (nCnt lim most slow cnt (wrap64 (now - at')) (wrap64 (now - at'))), .int .i64 (wrap64 (now - at')), .int .i64 cut] w w' := by
  obtain ⟨hl, q0, q1, q2, q3, q4, q5, hf⟩ := facts hb
  have HB : Hid (w.heap[b]? = some (.cells #[.int .i64 lim, .int .i64 most, .int .i64 slow, .int .i64 cnt, .int .i64 lst, .int .i64 cut] 36)) := hb
  clear hb
  have hm : ¬ most ≤ lim := by simpa using hD
  have hne : (b == w.heap.size) = false := by simp; omega
  go_enter Yba.func12, Yba.ntmps12
  go_wp2
  all_goals go_quiet (fail)
  all_goals go_wp2
  all_goals try (go_quiet (fail); go_wp2)
  all_goals try (go_quiet (fail); go_wp2)
  all_goals go_returns
  all_goals (
    refine And.intro rfl ?_
    apply left_mk
    · repeat (first | (with_reducible exact HB.out) | (with_reducible apply blk_set) | (with_reducible apply blk_drewN) | (with_reducible apply blk_drew) | (with_reducible apply blk_alloc))
    · simp
      have w21 : wrap64 (2 * 1) = 2 := by unfold wrap64; omega
      unfold nLim nCnt
      refine ⟨?_, ?_⟩
      all_goals (repeat' split) <;> omega
    · repeat (first | (with_reducible exact Kept.refl _ _) | (with_reducible apply Kept.setIn) | (with_reducible apply Kept.drewN) | (with_reducible apply Kept.drew) | (with_reducible apply Kept.alloc)))
set_option maxHeartbeats 400000 in
theorem ans2f (b : Nat) (lim most slow cnt lst cut at' now : Int) (w : World) (hb : w.heap[b]? = some (.cells #[.int .i64 lim, .int .i64 most, .int .i64 slow, .int .i64 cnt, .int .i64 lst, .int .i64 cut] 36))
    (hA : (lst == 0) = true) (hB : ¬ wrap64 (now - at') < 1) (hD : most ≤ lim) :
    Calls Yba.prog 12 #[.pointer (some ⟨b, 0, none⟩), .agg #[.int .i64 at', .int .i64 1], .int .i64 now] w fun e w' => e = .returned (.tuple #[]) ∧
      Left b #[.int .i64 (nLim lim most slow cnt (wrap64 (now - at')) (wrap64 (now - at'))), .int .i64 most, .int .i64 slow, .int .i64 (nCnt lim most slow cnt (wrap64 (now - at')) (wrap64 (now - at'))), .int .i64 (wrap64 (now - at')), .int .i64 cut] w w' := by
  obtain ⟨hl, q0, q1, q2, q3, q4, q5, hf⟩ := facts hb
  have HB : Hid (w.heap[b]? = some (.cells #[.int .i64 lim, .int .i64 most, .int .i64 slow, .int .i64 cnt, .int .i64 lst, .int .i64 cut] 36)) := hb
  clear hb
  have hne : (b == w.heap.size) = false := by simp; omega
  go_enter Yba.func12, Yba.ntmps12
  go_wp2
  all_goals go_quiet (fail)
  all_goals go_wp2
  all_goals go_returns
  all_goals (
    refine And.intro rfl ?_
    apply left_mk
    · repeat (first | (with_reducible exact HB.out) | (with_reducible apply blk_set) | (with_reducible apply blk_drewN) | (with_reducible apply blk_drew) | (with_reducible apply blk_alloc))
    · simp
      have w21 : wrap64 (2 * 1) = 2 := by unfold wrap64; omega
      unfold nLim nCnt
      refine ⟨?_, ?_⟩
      all_goals (repeat' split) <;> omega
    · repeat (first | (with_reducible exact Kept.refl _ _) | (with_reducible apply Kept.setIn) | (with_reducible apply Kept.drewN) | (with_reducible apply Kept.drew) | (with_reducible apply Kept.alloc)))
set_option maxHeartbeats 400000 in
theorem ans3r (b : Nat) (lim most slow cnt lst cut at' now : Int) (w : World) (hb : w.heap[b]? = some (.cells #[.int .i64 lim, .int .i64 most, .int .i64 slow, .int .i64 cnt, .int .i64 lst, .int .i64 cut] 36))
    (hA : (lst == 0) = false) (hA2 : wrap64 (now - at') < lst) (hB : wrap64 (now - at') < 1) (hD : decide (most ≤ lim) = false) :
    Calls Yba.prog 12 #[.pointer (some ⟨b, 0, none⟩), .agg #[.int .i64 at', .int .i64 1], .int .i64 now] w fun e w' => e = .returned (.tuple #[]) ∧
      Left b #[.int .i64 (nLim lim most slow cnt 1 (wrap64 (now - at'))), .int .i64 most, .int .i64 slow, .int .i64 (nCnt lim most slow cnt 1 (wrap64 (now - at'))), .int .i64 1, .int .i64 cut] w w' := by
  obtain ⟨hl, q0, q1, q2, q3, q4, q5, hf⟩ := facts hb
  have HB : Hid (w.heap[b]? = some (.cells #[.int .i64 lim, .int .i64 most, .int .i64 slow, .int .i64 cnt, .int .i64 lst, .int .i64 cut] 36)) := hb
  clear hb
  have hm : ¬ most ≤ lim := by simpa using hD
  have hne : (b == w.heap.size) = false := by simp; omega
  go_enter Yba.func12, Yba.ntmps12
  go_wp2
  all_goals go_quiet (fail)
  all_goals go_wp2
  all_goals try (go_quiet (fail); go_wp2)
  all_goals try (go_quiet (fail); go_wp2)
  all_goals go_returns
  all_goals (
    refine And.intro rfl ?_
    apply left_mk
    · repeat (first | (with_reducible exact HB.out) | (with_reducible apply blk_set) | (with_reducible apply blk_drewN) | (with_reducible apply blk_drew) | (with_reducible apply blk_alloc))
    · simp
      have w21 : wrap64 (2 * 1) = 2 := by unfold wrap64; omega
      unfold nLim nCnt
      refine ⟨?_, ?_⟩
      all_goals (repeat' split) <;> omega
    · repeat (first | (with_reducible exact Kept.refl _ _) | (with_reducible apply Kept.setIn) | (with_reducible apply Kept.drewN) | (with_reducible apply Kept.drew) | (with_reducible apply Kept.alloc)))
set_option maxHeartbeats 400000 in
theorem ans3f (b : Nat) (lim most slow cnt lst cut at' now : Int) (w : World) (hb : w.heap[b]? = some (.cells #[.int .i64 lim, .int .i64 most, .int .i64 slow, .int .i64 cnt, .int .i64 lst, .int .i64 cut] 36))
    (hA : (lst == 0) = false) (hA2 : wrap64 (now - at') < lst) (hB : wrap64 (now - at') < 1) (hD : most ≤ lim) :
    Calls Yba.prog 12 #[.pointer (some ⟨b, 0, none⟩), .agg #[.int .i64 at', .int .i64 1], .int .i64 now] w fun e w' => e = .returned (.tuple #[]) ∧
      Left b #[.int .i64 (nLim lim most slow cnt 1 (wrap64 (now - at'))), .int .i64 most, .int .i64 slow, .int .i64 (nCnt lim most slow cnt 1 (wrap64 (now - at'))), .int .i64 1, .int .i64 cut] w w' := by
  obtain ⟨hl, q0, q1, q2, q3, q4, q5, hf⟩ := facts hb
  have HB : Hid (w.heap[b]? = some (.cells #[.int .i64 lim, .int .i64 most, .int .i64 slow, .int .i64 cnt, .int .i64 lst, .int .i64 cut] 36)) := hb
  clear hb
  have hne : (b == w.heap.size) = false := by simp; omega
  go_enter Yba.func12, Yba.ntmps12
  go_wp2
  all_goals go_quiet (fail)
  all_goals go_wp2
  all_goals go_returns
  all_goals (
    refine And.intro rfl ?_
    apply left_mk
    · repeat (first | (with_reducible exact HB.out) | (with_reducible apply blk_set) | (with_reducible apply blk_drewN) | (with_reducible apply blk_drew) | (with_reducible apply blk_alloc))
    · simp
      have w21 : wrap64 (2 * 1) = 2 := by unfold wrap64; omega
      unfold nLim nCnt
      refine ⟨?_, ?_⟩
      all_goals (repeat' split) <;> omega
    · repeat (first | (with_reducible exact Kept.refl _ _) | (with_reducible apply Kept.setIn) | (with_reducible apply Kept.drewN) | (with_reducible apply Kept.drew) | (with_reducible apply Kept.alloc)))
set_option maxHeartbeats 400000 in
theorem ans4r (b : Nat) (lim most slow cnt lst cut at' now : Int) (w : World) (hb : w.heap[b]? = some (.cells #[.int .i64 lim, .int .i64 most, .int .i64 slow, .int .i64 cnt, .int .i64 lst, .int .i64 cut] 36))
    (hA : (lst == 0) = false) (hA2 : wrap64 (now - at') < lst) (hB : ¬ wrap64 (now - at') < 1) (hD : decide (most ≤ lim) = false) :
    Calls Yba.prog 12 #[.pointer (some ⟨b, 0, none⟩), .agg #[.int .i64 at', .int .i64 1], .int .i64 now] w fun e w' => e = .returned (.tuple #[]) ∧
      Left b #[.int .i64 (nLim lim most slow cnt (wrap64 (now - at')) (wrap64 (now - at'))), .int .i64 most, .int .i64 slow, .int .i64 (nCnt lim most slow cnt (wrap64 (now - at')) (wrap64 (now - at'))), .int .i64 (wrap64 (now - at')), .int .i64 cut] w w' := by
  obtain ⟨hl, q0, q1, q2, q3, q4, q5, hf⟩ := facts hb
  have HB : Hid (w.heap[b]? = some (.cells #[.int .i64 lim, .int .i64 most, .int .i64 slow, .int .i64 cnt, .int .i64 lst, .int .i64 cut] 36)) := hb
  clear hb
  have hm : ¬ most ≤ lim := by simpa using hD
  have hne : (b == w.heap.size) = false := by simp; omega
  go_enter Yba.func12, Yba.ntmps12
  go_wp2
  all_goals go_quiet (fail)
  all_goals go_wp2
  all_goals try (go_quiet (fail); go_wp2)
  all_goals try (go_quiet (fail); go_wp2)
  all_goals go_returns
  all_goals (
    refine And.intro rfl ?_
    apply left_mk
    · repeat (first | (with_reducible exact HB.out) | (with_reducible apply blk_set) | (with_reducible apply blk_drewN) | (with_reducible apply blk_drew) | (with_reducible apply blk_alloc))
    · simp
      have w21 : wrap64 (2 * 1) = 2 := by unfold wrap64; omega
      unfold nLim nCnt
      refine ⟨?_, ?_⟩
      all_goals (repeat' split) <;> omega
    · repeat (first | (with_reducible exact Kept.refl _ _) | (with_reducible apply Kept.setIn) | (with_reducible apply Kept.drewN) | (with_reducible apply Kept.drew) | (with_reducible apply Kept.alloc)))
set_option maxHeartbeats 400000 in
theorem ans4f (b : Nat) (lim most slow cnt lst cut at' now : Int) (w : World) (hb : w.heap[b]? = some (.cells #[.int .i64 lim, .int .i64 most, .int .i64 slow, .int .i64 cnt, .int .i64 lst, .int .i64 cut] 36))
    (hA : (lst == 0) = false) (hA2 : wrap64 (now - at') < lst) (hB : ¬ wrap64 (now - at') < 1) (hD : most ≤ lim) :
    Calls Yba.prog 12 #[.pointer (some ⟨b, 0, none⟩), .agg #[.int .i64 at', .int .i64 1], .int .i64 now] w fun e w' => e = .returned (.tuple #[]) ∧
      Left b #[.int .i64 (nLim lim most slow cnt (wrap64 (now - at')) (wrap64 (now - at'))), .int .i64 most, .int .i64 slow, .int .i64 (nCnt lim most slow cnt (wrap64 (now - at')) (wrap64 (now - at'))), .int .i64 (wrap64 (now - at')), .int .i64 cut] w w' := by
  obtain ⟨hl, q0, q1, q2, q3, q4, q5, hf⟩ := facts hb
  have HB : Hid (w.heap[b]? = some (.cells #[.int .i64 lim, .int .i64 most, .int .i64 slow, .int .i64 cnt, .int .i64 lst, .int .i64 cut] 36)) := hb
  clear hb
  have hne : (b == w.heap.size) = false := by simp; omega
  go_enter Yba.func12, Yba.ntmps12
  go_wp2
  all_goals go_quiet (fail)
  all_goals go_wp2
  all_goals go_returns
  all_goals (
    refine And.intro rfl ?_
    apply left_mk
    · repeat (first | (with_reducible exact HB.out) | (with_reducible apply blk_set) | (with_reducible apply blk_drewN) | (with_reducible apply blk_drew) | (with_reducible apply blk_alloc))
    · simp
      have w21 : wrap64 (2 * 1) = 2 := by unfold wrap64; omega
      unfold nLim nCnt
      refine ⟨?_, ?_⟩
      all_goals (repeat' split) <;> omega
    · repeat (first | (with_reducible exact Kept.refl _ _) | (with_reducible apply Kept.setIn) | (with_reducible apply Kept.drewN) | (with_reducible apply Kept.drew) | (with_reducible apply Kept.alloc)))
set_option maxHeartbeats 400000 in
theorem ans5r (b : Nat) (lim most slow cnt lst cut at' now : Int) (w : World) (hb : w.heap[b]? = some (.cells #[.int .i64 lim, .int .i64 most, .int .i64 slow, .int .i64 cnt, .int .i64 lst, .int .i64 cut] 36))
    (hA : (lst == 0) = false) (hA2 : ¬ wrap64 (now - at') < lst) (hD : decide (most ≤ lim) = false) :
    Calls Yba.prog 12 #[.pointer (some ⟨b, 0, none⟩), .agg #[.int .i64 at', .int .i64 1], .int .i64 now] w fun e w' => e = .returned (.tuple #[]) ∧
      Left b #[.int .i64 (nLim lim most slow cnt lst (wrap64 (now - at'))), .int .i64 most, .int .i64 slow, .int .i64 (nCnt lim most slow cnt lst (wrap64 (now - at'))), .int .i64 lst, .int .i64 cut] w w' := by
  obtain ⟨hl, q0, q1, q2, q3, q4, q5, hf⟩ := facts hb
  have HB : Hid (w.heap[b]? = some (.cells #[.int .i64 lim, .int .i64 most, .int .i64 slow, .int .i64 cnt, .int .i64 lst, .int .i64 cut] 36)) := hb
  clear hb
  have hm : ¬ most ≤ lim := by simpa using hD
  have hA3 : decide (wrap64 (now - at') < lst) = false := by simpa using hA2
  have hne : (b == w.heap.size) = false := by simp; omega
  go_enter Yba.func12, Yba.ntmps12
  go_wp2
  all_goals go_quiet (fail)
  all_goals go_wp2
  all_goals try (go_quiet (fail); go_wp2)
  all_goals try (go_quiet (fail); go_wp2)
  all_goals go_returns
  all_goals (
    refine And.intro rfl ?_
    apply left_mk
    · repeat (first | (with_reducible exact HB.out) | (with_reducible apply blk_set) | (with_reducible apply blk_drewN) | (with_reducible apply blk_drew) | (with_reducible apply blk_alloc))
    · simp
      have w21 : wrap64 (2 * 1) = 2 := by unfold wrap64; omega
      unfold nLim nCnt
      refine ⟨?_, ?_⟩
      all_goals (repeat' split) <;> omega
    · repeat (first | (with_reducible exact Kept.refl _ _) | (with_reducible apply Kept.setIn) | (with_reducible apply Kept.drewN) | (with_reducible apply Kept.drew) | (with_reducible apply Kept.alloc)))
set_option maxHeartbeats 400000 in
theorem ans5f (b : Nat) (lim most slow cnt lst cut at' now : Int) (w : World) (hb : w.heap[b]? = some (.cells #[.int .i64 lim, .int .i64 most, .int .i64 slow, .int .i64 cnt, .int .i64 lst, .int .i64 cut] 36))
    (hA : (lst == 0) = false) (hA2 : ¬ wrap64 (now - at') < lst) (hD : most ≤ lim) :
    Calls Yba.prog 12 #[.pointer (some ⟨b, 0, none⟩), .agg #[.int .i64 at', .int .i64 1], .int .i64 now] w fun e w' => e = .returned (.tuple #[]) ∧
      Left b #[.int .i64 (nLim lim most slow cnt lst (wrap64 (now - at'))), .int .i64 most, .int .i64 slow, .int .i64 (nCnt lim most slow cnt lst (wrap64 (now - at'))), .int .i64 lst, .int .i64 cut] w w' := by
  obtain ⟨hl, q0, q1, q2, q3, q4, q5, hf⟩ := facts hb
  have HB : Hid (w.heap[b]? = some (.cells #[.int .i64 lim, .int .i64 most, .int .i64 slow, .int .i64 cnt, .int .i64 lst, .int .i64 cut] 36)) := hb
  clear hb
  have hA3 : decide (wrap64 (now - at') < lst) = false := by simpa using hA2
  have hne : (b == w.heap.size) = false := by simp; omega
  go_enter Yba.func12, Yba.ntmps12
  go_wp2
  all_goals go_quiet (fail)
  all_goals go_wp2
  all_goals go_returns
  all_goals (
    refine And.intro rfl ?_
    apply left_mk
    · repeat (first | (with_reducible exact HB.out) | (with_reducible apply blk_set) | (with_reducible apply blk_drewN) | (with_reducible apply blk_drew) | (with_reducible apply blk_alloc))
    · simp
      have w21 : wrap64 (2 * 1) = 2 := by unfold wrap64; omega
      unfold nLim nCnt
      refine ⟨?_, ?_⟩
      all_goals (repeat' split) <;> omega
    · repeat (first | (with_reducible exact Kept.refl _ _) | (with_reducible apply Kept.setIn) | (with_reducible apply Kept.drewN) | (with_reducible apply Kept.drew) | (with_reducible apply Kept.alloc)))

/-- An answer to a first try. -/
theorem answered (b : Nat) (lim most slow cnt lst cut at' now : Int) (w : World) (hb : w.heap[b]? = some (.cells #[.int .i64 lim, .int .i64 most, .int .i64 slow, .int .i64 cnt, .int .i64 lst, .int .i64 cut] 36)) :
    Calls Yba.prog 12 #[.pointer (some ⟨b, 0, none⟩), .agg #[.int .i64 at', .int .i64 1], .int .i64 now] w fun e w' => e = .returned (.tuple #[]) ∧
      Left b #[.int .i64 (nLim lim most slow cnt (nLst lst (wrap64 (now - at'))) (wrap64 (now - at'))), .int .i64 most, .int .i64 slow, .int .i64 (nCnt lim most slow cnt (nLst lst (wrap64 (now - at'))) (wrap64 (now - at'))), .int .i64 (nLst lst (wrap64 (now - at'))), .int .i64 cut] w w' := by
  by_cases hD : most ≤ lim
  · by_cases hA : lst = 0
    · by_cases hB : wrap64 (now - at') < 1
      · rw [nLst_1 hA hB]; exact ans1f b lim most slow cnt lst cut at' now w hb (by simp [hA]) hB hD
      · rw [nLst_2 hA hB]; exact ans2f b lim most slow cnt lst cut at' now w hb (by simp [hA]) hB hD
    · by_cases hA2 : wrap64 (now - at') < lst
      · by_cases hB : wrap64 (now - at') < 1
        · rw [nLst_3 hA2 hB]; exact ans3f b lim most slow cnt lst cut at' now w hb (by simp [hA]) hA2 hB hD
        · rw [nLst_4 hA2 hB]; exact ans4f b lim most slow cnt lst cut at' now w hb (by simp [hA]) hA2 hB hD
      · rw [nLst_5 hA hA2]; exact ans5f b lim most slow cnt lst cut at' now w hb (by simp [hA]) hA2 hD
  · have hD' : decide (most ≤ lim) = false := by simpa using hD
    by_cases hA : lst = 0
    · by_cases hB : wrap64 (now - at') < 1
      · rw [nLst_1 hA hB]; exact ans1r b lim most slow cnt lst cut at' now w hb (by simp [hA]) hB hD'
      · rw [nLst_2 hA hB]; exact ans2r b lim most slow cnt lst cut at' now w hb (by simp [hA]) hB hD'
    · by_cases hA2 : wrap64 (now - at') < lst
      · by_cases hB : wrap64 (now - at') < 1
        · rw [nLst_3 hA2 hB]; exact ans3r b lim most slow cnt lst cut at' now w hb (by simp [hA]) hA2 hB hD'
        · rw [nLst_4 hA2 hB]; exact ans4r b lim most slow cnt lst cut at' now w hb (by simp [hA]) hA2 hB hD'
      · rw [nLst_5 hA hA2]; exact ans5r b lim most slow cnt lst cut at' now w hb (by simp [hA]) hA2 hD'

set_option maxHeartbeats 400000 in
/-- An answer to a later try: nothing turns. -/
theorem answered_no (b : Nat) (cs : Array Value) (at' n now : Int) (w : World) (hb : w.heap[b]? = some (.cells cs 36)) (hn : (n == 1) = false) :
    Calls Yba.prog 12 #[.pointer (some ⟨b, 0, none⟩), .agg #[.int .i64 at', .int .i64 n], .int .i64 now] w fun e w' => e = .returned (.tuple #[]) ∧ Left b cs w w' := by
  have HB : Hid (w.heap[b]? = some (.cells cs 36)) := hb
  clear hb
  go_enter Yba.func12, Yba.ntmps12
  go_wp2
  go_returns
  exact ⟨rfl, left_mk (blk_alloc HB.out) rfl ((Kept.refl _ _).alloc _ _)⟩
end Go.Proofs.Ybulkauhy.Fl
