/-
  The walk of 'agent.LawS2286BGrowth': newFlight, the loop (each round: an answer to a later try, an answer to a first try), the last test.
-/
import Derived.Test.YbulkauhyAnswered
import Derived.Test.YbulkauhyGrowthPlain
namespace Go.Proofs.Ybulkauhy.Fl
open Go.ChangeShapes Go.WideShapes Go.ChangeAt Go.RowKit
set_option maxHeartbeats 400000 in
theorem new_lo (x : Int) (w : World) (h : x < 8) :
    Calls Yba.prog 14 #[.int .i64 x] w fun e w' =>
      e = .returned (.agg #[.int .i64 8, .int .i64 8, .int .i64 8, .int .i64 0, .int .i64 0, .int .i64 (-1)]) ∧ w' = w.alloc (.cells #[.int .i64 8, .int .i64 8, .int .i64 8, .int .i64 0, .int .i64 0, .int .i64 (-1)] 36) := by
  go_enter Yba.func14, Yba.ntmps14
  go_wp2
  go_returns
  exact ⟨rfl, rfl⟩
/-- What the loop hands on. -/
def Rel (w : World) (steps r M : Int) (k : Nat) (wr : World) : Prop :=
  (k : Int) ≤ steps ∧ wr.heap[w.heap.size + 1]? = some (.cells #[.int .i64 (gLim k M), .int .i64 M, .int .i64 M, .int .i64 0, .int .i64 (gLst k r), .int .i64 (-1)] 36) ∧ Grown w wr

theorem rel_start (w : World) (steps r M : Int) (hs0 : 0 ≤ steps) (hM : 8 ≤ M) (c : Array Value) (t : TypeId) :
    Rel w steps r M 0 ((w.alloc (.cells c t)).alloc (.cells #[.int .i64 8, .int .i64 M, .int .i64 M, .int .i64 0, .int .i64 0, .int .i64 (-1)] 36)) := by
  refine ⟨by simpa using hs0, ?_, ((Grown.refl _).alloc _ _).alloc _ _⟩
  have e1 : gLim ((0 : Nat) : Int) M = 8 := by unfold gLim; simp; omega
  have e2 : gLst ((0 : Nat) : Int) r = 0 := by unfold gLst; simp
  rw [e1, e2]
  have := (MapKept.heap_alloc (w.alloc (.cells c t)) (.cells #[.int .i64 8, .int .i64 M, .int .i64 M, .int .i64 0, .int .i64 0, .int .i64 (-1)] 36)).1
  simpa using this

theorem rel_next {w wr w2 : World} {steps r M : Int} {k : Nat} (hlt : (k : Int) < steps) (hs : steps ≤ 1024) (hr0 : -9223372036854775808 ≤ r) (hr : r ≤ 1152921504606846976) (hM : 8 ≤ M) (hM2 : M ≤ 255)
    (hG : Grown w wr) (h : Left (w.heap.size + 1) #[.int .i64 (nLim (gLim k M) M M 0 (nLst (gLst k r) (wrap64 (r - 0))) (wrap64 (r - 0))), .int .i64 M, .int .i64 M, .int .i64 (nCnt (gLim k M) M M 0 (nLst (gLst k r) (wrap64 (r - 0))) (wrap64 (r - 0))), .int .i64 (nLst (gLst k r) (wrap64 (r - 0))), .int .i64 (-1)] wr w2) :
    Rel w steps r M (k + 1) w2 := by
  obtain ⟨⟨c, hc, rfl⟩, hk⟩ := h
  rw [g_r r hr0 hr, g_lst, g_lim k M r (by omega) (by omega) hM hM2 hr, g_cnt k M r hr, ← g_next k r (by omega)] at hc
  exact ⟨by omega, hc, Kept.grown hG hk (Nat.le_succ _)⟩

set_option maxHeartbeats 400000 in
theorem new_hi (x : Int) (w : World) (h : ¬ x < 8) :
    Calls Yba.prog 14 #[.int .i64 x] w fun e w' =>
      e = .returned (.agg #[.int .i64 8, .int .i64 x, .int .i64 x, .int .i64 0, .int .i64 0, .int .i64 (-1)]) ∧ w' = w.alloc (.cells #[.int .i64 8, .int .i64 x, .int .i64 x, .int .i64 0, .int .i64 0, .int .i64 (-1)] 36) := by
  go_enter Yba.func14, Yba.ntmps14
  go_wp2
  go_returns
  exact ⟨rfl, rfl⟩
set_option maxHeartbeats 1000000 in
theorem lo_main (x steps r : Int) (w : World) (hx0 : 0 ≤ x) (hx : x < 8) (hs0 : 0 ≤ steps) (hs : steps ≤ 1024) (hr0 : -9223372036854775808 ≤ r) (hr : r ≤ 1152921504606846976) :
    Calls Yba.prog 6 #[.int .u8 x, .int .u16 steps, .int .i64 r] w fun e w' => e = .returned (.bool true) ∧ Grown w w' := by
  have hd1 : decide (1024 < steps) = false := by simp; omega
  have hd2 : decide (1152921504606846976 < r) = false := by simp; omega
  go_enter Yba.func6, Yba.ntmps6
  go_wp2_with (go_at_call 14; refine (new_lo _ _ (by omega)).mono ?_; rintro e w' ⟨rfl, rfl⟩)
  go_loopw [9] (fun i wr => ∃ k : Nat, i = .int .i64 k ∧ Rel w steps r 8 k wr) (fun i _ => (steps - intOf i).toNat)
  case atStart => exact ⟨0, rfl, rel_start w steps r 8 hs0 (by omega) _ _⟩
  case round =>
    obtain ⟨k, rfl, hk, hB, hG0⟩ := hrel
    have hG : Hid (Grown w wr) := hG0
    clear hG0
    by_cases hlt : (k : Int) < steps
    · obtain ⟨hl, q0, q1, q2, q3, q4, q5, hf⟩ := facts hB
      have HB : Hid (wr.heap[w.heap.size + 1]? = some (.cells #[.int .i64 (gLim k 8), .int .i64 8, .int .i64 8, .int .i64 0, .int .i64 (gLst k r), .int .i64 (-1)] 36)) := hB
      clear hB
      go_wp2_with fail
      refine (answered_no (w.heap.size + 1) _ 0 2 r _ (blk_alloc HB.out) rfl).mono ?_
      rintro e w1 ⟨rfl, ⟨c, hc, rfl⟩, hk1⟩
      have hl1 : wr.heap.size + 1 ≤ w1.heap.size := by have := hk1.size; simpa using this
      have hn : w1.heap[wr.heap.size]? = some (.cells #[.int .i64 (gLim k 8), .int .i64 8, .int .i64 8, .int .i64 0, .int .i64 (gLst k r), .int .i64 (-1)] 36) := by
        rw [hk1.block _ (by simp) (by omega)]; exact (MapKept.heap_alloc wr _).1
      have hG1 : Hid (Grown w w1) := Kept.grown (hG.out.alloc _ _) hk1 (Nat.le_succ _)
      obtain ⟨_, p0, p1, p2, p3, p4, p5, _⟩ := facts hc
      obtain ⟨_, s0, s1, s2, s3, s4, s5, _⟩ := facts hn
      have HC : Hid (w1.heap[w.heap.size + 1]? = some (.cells #[.int .i64 (gLim k 8), .int .i64 8, .int .i64 8, .int .i64 0, .int .i64 (gLst k r), .int .i64 (-1)] 36)) := hc
      clear hc hn hk1 HB hG q0 q1 q2 q3 q4 q5 hf
      go_wp2_with fail
      refine (answered (w.heap.size + 1) (gLim k 8) 8 8 0 (gLst k r) (-1) 0 r _ HC.out).mono ?_
      rintro e w2 ⟨rfl, hL⟩
      have hR : Hid (Rel w steps r 8 (k + 1) w2) := rel_next hlt hs hr0 hr (by omega) (by omega) hG1.out hL
      clear hL HC hG1 p0 p1 p2 p3 p4 p5 s0 s1 s2 s3 s4 s5
      go_wp2_with fail
      go_roundw
      case rel => exact ⟨k + 1, by go_num, hR.out⟩
      case measure => simp [intOf]; omega
    · have hks : (k : Int) = steps := by omega
      rw [hks] at hB
      have hG' : Hid (Grown w wr) := hG
      clear hG hks hk
      by_cases h0 : steps = 0
      · subst h0
        have e1 : gLim 0 8 = 8 := by unfold gLim; simp
        have e2 : gLst 0 r = 0 := by unfold gLst; simp
        rw [e1, e2] at hB
        obtain ⟨hl, q0, q1, q2, q3, q4, q5, hf⟩ := facts hB
        clear hB e1 e2
        go_wp2_with fail
        all_goals go_ret
        all_goals exact ⟨rfl, hG'.out⟩
      · have e2 : gLst steps r = gWl r := by unfold gLst; simp [h0]
        have hz : (steps == 0) = false := by simpa using h0
        rw [e2] at hB
        clear e2
        have h8 : ¬ 8 + steps ≤ 8 := by omega
        have e1 : gLim steps 8 = 8 := by unfold gLim; rw [if_neg h8]
        rw [e1] at hB
        clear e1
        by_cases h1 : r < 1
        · have e3 : gWl r = 1 := by unfold gWl; rw [if_pos h1]
          rw [e3] at hB
          obtain ⟨hl, q0, q1, q2, q3, q4, q5, hf⟩ := facts hB
          clear hB e3
          go_wp2_with fail
          all_goals go_ret
          all_goals exact ⟨rfl, hG'.out⟩
        · have e3 : gWl r = r := by unfold gWl; rw [if_neg h1]
          rw [e3] at hB
          obtain ⟨hl, q0, q1, q2, q3, q4, q5, hf⟩ := facts hB
          clear hB e3
          go_wp2_with fail
          all_goals go_ret
          all_goals exact ⟨rfl, hG'.out⟩
set_option maxHeartbeats 1000000 in
theorem hi_main (x steps r : Int) (w : World) (hx0 : 0 ≤ x) (hx : ¬ x < 8) (hxu : x ≤ 255) (hs0 : 0 ≤ steps) (hs : steps ≤ 1024) (hr0 : -9223372036854775808 ≤ r) (hr : r ≤ 1152921504606846976) :
    Calls Yba.prog 6 #[.int .u8 x, .int .u16 steps, .int .i64 r] w fun e w' => e = .returned (.bool true) ∧ Grown w w' := by
  have hd1 : decide (1024 < steps) = false := by simp; omega
  have hd2 : decide (1152921504606846976 < r) = false := by simp; omega
  go_enter Yba.func6, Yba.ntmps6
  go_wp2_with (go_at_call 14; refine (new_hi _ _ (by omega)).mono ?_; rintro e w' ⟨rfl, rfl⟩)
  go_loopw [9] (fun i wr => ∃ k : Nat, i = .int .i64 k ∧ Rel w steps r x k wr) (fun i _ => (steps - intOf i).toNat)
  case atStart => exact ⟨0, rfl, rel_start w steps r x hs0 (by omega) _ _⟩
  case round =>
    obtain ⟨k, rfl, hk, hB, hG0⟩ := hrel
    have hG : Hid (Grown w wr) := hG0
    clear hG0
    by_cases hlt : (k : Int) < steps
    · obtain ⟨hl, q0, q1, q2, q3, q4, q5, hf⟩ := facts hB
      have HB : Hid (wr.heap[w.heap.size + 1]? = some (.cells #[.int .i64 (gLim k x), .int .i64 x, .int .i64 x, .int .i64 0, .int .i64 (gLst k r), .int .i64 (-1)] 36)) := hB
      clear hB
      go_wp2_with fail
      refine (answered_no (w.heap.size + 1) _ 0 2 r _ (blk_alloc HB.out) rfl).mono ?_
      rintro e w1 ⟨rfl, ⟨c, hc, rfl⟩, hk1⟩
      have hl1 : wr.heap.size + 1 ≤ w1.heap.size := by have := hk1.size; simpa using this
      have hn : w1.heap[wr.heap.size]? = some (.cells #[.int .i64 (gLim k x), .int .i64 x, .int .i64 x, .int .i64 0, .int .i64 (gLst k r), .int .i64 (-1)] 36) := by
        rw [hk1.block _ (by simp) (by omega)]; exact (MapKept.heap_alloc wr _).1
      have hG1 : Hid (Grown w w1) := Kept.grown (hG.out.alloc _ _) hk1 (Nat.le_succ _)
      obtain ⟨_, p0, p1, p2, p3, p4, p5, _⟩ := facts hc
      obtain ⟨_, s0, s1, s2, s3, s4, s5, _⟩ := facts hn
      have HC : Hid (w1.heap[w.heap.size + 1]? = some (.cells #[.int .i64 (gLim k x), .int .i64 x, .int .i64 x, .int .i64 0, .int .i64 (gLst k r), .int .i64 (-1)] 36)) := hc
      clear hc hn hk1 HB hG q0 q1 q2 q3 q4 q5 hf
      go_wp2_with fail
      refine (answered (w.heap.size + 1) (gLim k x) x x 0 (gLst k r) (-1) 0 r _ HC.out).mono ?_
      rintro e w2 ⟨rfl, hL⟩
      have hR : Hid (Rel w steps r x (k + 1) w2) := rel_next hlt hs hr0 hr (by omega) (by omega) hG1.out hL
      clear hL HC hG1 p0 p1 p2 p3 p4 p5 s0 s1 s2 s3 s4 s5
      go_wp2_with fail
      go_roundw
      case rel => exact ⟨k + 1, by go_num, hR.out⟩
      case measure => simp [intOf]; omega
    · have hks : (k : Int) = steps := by omega
      rw [hks] at hB
      have hG' : Hid (Grown w wr) := hG
      clear hG hks hk
      by_cases h0 : steps = 0
      · subst h0
        have e1 : gLim 0 x = 8 := by unfold gLim; simp; omega
        have e2 : gLst 0 r = 0 := by unfold gLst; simp
        rw [e1, e2] at hB
        obtain ⟨hl, q0, q1, q2, q3, q4, q5, hf⟩ := facts hB
        clear hB e1 e2
        go_wp2_with fail
        all_goals go_ret
        all_goals exact ⟨rfl, hG'.out⟩
      · have e2 : gLst steps r = gWl r := by unfold gLst; simp [h0]
        have hz : (steps == 0) = false := by simpa using h0
        rw [e2] at hB
        clear e2
        by_cases h8 : 8 + steps ≤ x
        · have e1 : gLim steps x = 8 + steps := by unfold gLim; rw [if_pos h8]
          rw [e1] at hB
          clear e1
          by_cases h1 : r < 1
          · have e3 : gWl r = 1 := by unfold gWl; rw [if_pos h1]
            rw [e3] at hB
            obtain ⟨hl, q0, q1, q2, q3, q4, q5, hf⟩ := facts hB
            clear hB e3
            go_wp2_with fail
            all_goals go_ret
            all_goals exact ⟨rfl, hG'.out⟩
          · have e3 : gWl r = r := by unfold gWl; rw [if_neg h1]
            rw [e3] at hB
            obtain ⟨hl, q0, q1, q2, q3, q4, q5, hf⟩ := facts hB
            clear hB e3
            go_wp2_with fail
            all_goals go_ret
            all_goals exact ⟨rfl, hG'.out⟩
        · have e1 : gLim steps x = x := by unfold gLim; rw [if_neg h8]
          rw [e1] at hB
          clear e1
          by_cases h1 : r < 1
          · have e3 : gWl r = 1 := by unfold gWl; rw [if_pos h1]
            rw [e3] at hB
            obtain ⟨hl, q0, q1, q2, q3, q4, q5, hf⟩ := facts hB
            clear hB e3
            go_wp2_with fail
            all_goals go_ret
            all_goals exact ⟨rfl, hG'.out⟩
          · have e3 : gWl r = r := by unfold gWl; rw [if_neg h1]
            rw [e3] at hB
            obtain ⟨hl, q0, q1, q2, q3, q4, q5, hf⟩ := facts hB
            clear hB e3
            go_wp2_with fail
            all_goals go_ret
            all_goals exact ⟨rfl, hG'.out⟩
set_option maxHeartbeats 400000 in
theorem out_steps (x steps r : Int) (w : World) (h : 1024 < steps) :
    Calls Yba.prog 6 #[.int .u8 x, .int .u16 steps, .int .i64 r] w fun e w' => e = .returned (.bool true) ∧ Grown w w' := by
  go_enter Yba.func6, Yba.ntmps6
  go_wp2_with fail
  go_ret
  exact ⟨rfl, Grown.refl _⟩
set_option maxHeartbeats 400000 in
theorem out_rtt (x steps r : Int) (w : World) (h : ¬ 1024 < steps) (h2 : 1152921504606846976 < r) :
    Calls Yba.prog 6 #[.int .u8 x, .int .u16 steps, .int .i64 r] w fun e w' => e = .returned (.bool true) ∧ Grown w w' := by
  have hd1 : decide (1024 < steps) = false := by simpa using h
  go_enter Yba.func6, Yba.ntmps6
  go_wp2_with fail
  go_ret
  exact ⟨rfl, Grown.refl _⟩
theorem growth_walk (x steps r : Int) (w : World) (hx0 : 0 ≤ x) (hxu : x ≤ 255) (hs0 : 0 ≤ steps) (hr0 : -9223372036854775808 ≤ r) :
    Calls Yba.prog 6 #[.int .u8 x, .int .u16 steps, .int .i64 r] w fun e w' => e = .returned (.bool true) ∧ Grown w w' := by
  by_cases h1 : 1024 < steps
  · exact out_steps x steps r w h1
  · by_cases h2 : 1152921504606846976 < r
    · exact out_rtt x steps r w h1 h2
    · by_cases hx : x < 8
      · exact lo_main x steps r w hx0 hx hs0 (by omega) hr0 (by omega)
      · exact hi_main x steps r w hx0 hx hxu hs0 (by omega) hr0 (by omega)
end Go.Proofs.Ybulkauhy.Fl
