/-
  The walks of 'ocs.LawS2286COpen': Balance by contract; the law in six ways (limited or not; no room, too much held, granted).
-/
import Derived.Test.YbulkauhyAid
import Derived.BigRegion
import Derived.RegionTactic
namespace Go.Proofs.Ybulkauhy.Op
open Go.ChangeShapes Go.WideShapes Go.ChangeAt Go.RowKit

/-! ### Balance, without and with a limit -/
set_option maxHeartbeats 400000 in
theorem bal_f (b : Nat) (x : Int) (w : World) (h3 : w.cell? ⟨b, 3, none⟩ = some (.bool false)) (h1 : w.cell? ⟨b, 1, none⟩ = some (.int .i64 x)) :
    Calls Yba.prog 17 #[.pointer (some ⟨b, 0, none⟩)] w fun e w' => e = .returned (.int .i64 x) ∧ ∃ m, w' = w.drewN m := by
  go_enter Yba.func17, Yba.ntmps17
  go_wp2
  go_ret
  exact ⟨rfl, 0, rfl⟩
set_option maxHeartbeats 400000 in
theorem bal_t (b : Nat) (x y z : Int) (w : World) (hz : wrap64 (x - y) = z) (h3 : w.cell? ⟨b, 3, none⟩ = some (.bool true)) (h2 : w.cell? ⟨b, 2, none⟩ = some (.int .i64 x)) (h4 : w.cell? ⟨b, 4, none⟩ = some (.int .i64 y)) :
    Calls Yba.prog 17 #[.pointer (some ⟨b, 0, none⟩)] w fun e w' => e = .returned (.int .i64 z) ∧ ∃ m, w' = w.drewN m := by
  have hz' : Hid (wrap64 (x - y) = z) := hz
  clear hz
  go_enter Yba.func17, Yba.ntmps17
  go_wp2
  go_quiet (fail)
  go_wp2
  go_ret
  exact ⟨by rw [← hz'.out]; rfl, _, rfl⟩

/-! ### The worlds at the ends: new blocks, stores into those, draws -/
theorem g_one (w : World) (c1 c2 : Array Value) (t1 t2 : TypeId) (n : Nat) (v : Value) :
    Grown w ((((w.alloc (.cells c1 t1)).alloc (.cells c2 t2)).drewN n).setCell ⟨w.heap.size + 1, 0, none⟩ v) :=
  (Aid.grown_drewN (((Grown.refl _).alloc _ _).alloc _ _) _).setCell (Nat.le_succ _) _
theorem g_four (w : World) (c1 c2 : Array Value) (t1 t2 : TypeId) (n : Nat) (v1 v2 v3 v4 : Value) :
    Grown w (((((((w.alloc (.cells c1 t1)).alloc (.cells c2 t2)).drewN n).setCell ⟨w.heap.size, 1, none⟩ v1).setCell ⟨w.heap.size + 1, 0, none⟩ v2).setCell ⟨w.heap.size + 1, 1, none⟩ v3).setCell ⟨w.heap.size, 4, none⟩ v4) :=
  ((((Aid.grown_drewN (((Grown.refl _).alloc _ _).alloc _ _) _).setCell (Nat.le_refl _) _).setCell (Nat.le_succ _) _).setCell (Nat.le_succ _) _).setCell (Nat.le_refl _) _
theorem w0 (s : Int) (l1 : -9223372036854775808 ≤ s) (u1 : s ≤ 9223372036854775807) : wrap64 (s - 0) = s := by unfold wrap64; omega

/-! ### The law without a limit -/
set_option maxHeartbeats 400000 in
theorem open_f1 (g s : Int) (h : s < g) (l1 : -9223372036854775808 ≤ s) (u1 : s ≤ 9223372036854775807) (w : World) :
    Calls Yba.prog 8 #[.int .i64 g, .int .i64 s, .bool false] w fun e w' => e = .returned (.bool true) ∧ Grown w w' := by
  go_enter Yba.func8, Yba.ntmps8
  go_wp2
  go_quiet ((go_at_call 17; refine Calls.quiet_of (bal_f w.heap.size s _ ?_ ?_) <;> simp))
  go_wp2
  go_ret
  exact ⟨rfl, g_one _ _ _ _ _ _ _⟩
set_option maxHeartbeats 400000 in
theorem open_f2 (g s : Int) (h : ¬ s < g) (h2 : wrap64 (4611686018427387904 - g) < 0) (l1 : -9223372036854775808 ≤ s) (u1 : s ≤ 9223372036854775807) (w : World) :
    Calls Yba.prog 8 #[.int .i64 g, .int .i64 s, .bool false] w fun e w' => e = .returned (.bool true) ∧ Grown w w' := by
  have hd : decide (s < g) = false := by simpa using h
  go_enter Yba.func8, Yba.ntmps8
  go_wp2
  go_quiet ((go_at_call 17; refine Calls.quiet_of (bal_f w.heap.size s _ ?_ ?_) <;> simp))
  go_wp2
  go_ret
  exact ⟨rfl, g_one _ _ _ _ _ _ _⟩
set_option maxHeartbeats 400000 in
theorem open_f3 (g s : Int) (h : ¬ s < g) (h2 : ¬ wrap64 (4611686018427387904 - g) < 0) (w : World) :
    Calls Yba.prog 8 #[.int .i64 g, .int .i64 s, .bool false] w fun e w' => e = .returned (.bool true) ∧ Grown w w' := by
  have hd : decide (s < g) = false := by simpa using h
  go_enter Yba.func8, Yba.ntmps8
  go_wp2
  go_quiet ((go_at_call 17; refine Calls.quiet_of (bal_f w.heap.size s _ ?_ ?_) <;> simp))
  go_wp2
  go_region
  all_goals go_wp2
  all_goals go_region
  all_goals go_wp2
  all_goals go_region
  all_goals go_wp2
  all_goals go_ret
  all_goals exact ⟨rfl, (g_four _ _ _ _ _ _ _ _ _ _).drew.drew⟩

/-! ### The law with a limit -/
set_option maxHeartbeats 400000 in
theorem open_t1 (g s : Int) (h : s < g) (l1 : -9223372036854775808 ≤ s) (u1 : s ≤ 9223372036854775807) (w : World) :
    Calls Yba.prog 8 #[.int .i64 g, .int .i64 s, .bool true] w fun e w' => e = .returned (.bool true) ∧ Grown w w' := by
  go_enter Yba.func8, Yba.ntmps8
  go_wp2
  go_quiet ((go_at_call 17; refine Calls.quiet_of (bal_t w.heap.size s 0 s _ (w0 s l1 u1) ?_ ?_ ?_) <;> simp))
  go_wp2
  go_quiet (fail)
  go_wp2
  go_ret
  exact ⟨rfl, Aid.grown_drewN (g_one _ _ _ _ _ _ _) _⟩
set_option maxHeartbeats 400000 in
theorem open_t2 (g s : Int) (h : ¬ s < g) (h2 : wrap64 (4611686018427387904 - g) < 0) (l1 : -9223372036854775808 ≤ s) (u1 : s ≤ 9223372036854775807) (w : World) :
    Calls Yba.prog 8 #[.int .i64 g, .int .i64 s, .bool true] w fun e w' => e = .returned (.bool true) ∧ Grown w w' := by
  have hd : decide (s < g) = false := by simpa using h
  go_enter Yba.func8, Yba.ntmps8
  go_wp2
  go_quiet ((go_at_call 17; refine Calls.quiet_of (bal_t w.heap.size s 0 s _ (w0 s l1 u1) ?_ ?_ ?_) <;> simp))
  go_wp2
  go_quiet (fail)
  go_wp2
  go_ret
  exact ⟨rfl, Aid.grown_drewN (g_one _ _ _ _ _ _ _) _⟩
set_option maxHeartbeats 400000 in
theorem open_t3 (g s : Int) (h : ¬ s < g) (h2 : ¬ wrap64 (4611686018427387904 - g) < 0) (lg : -9223372036854775808 ≤ g) (ug : g ≤ 9223372036854775807) (l1 : -9223372036854775808 ≤ s) (u1 : s ≤ 9223372036854775807) (w : World) :
    Calls Yba.prog 8 #[.int .i64 g, .int .i64 s, .bool true] w fun e w' => e = .returned (.bool true) ∧ Grown w w' := by
  have hd : decide (s < g) = false := by simpa using h
  go_enter Yba.func8, Yba.ntmps8
  go_wp2
  go_quiet ((go_at_call 17; refine Calls.quiet_of (bal_t w.heap.size s 0 s _ (w0 s l1 u1) ?_ ?_ ?_) <;> simp))
  go_wp2
  go_region
  all_goals go_wp2
  all_goals go_region
  all_goals go_wp2
  all_goals go_region
  all_goals go_wp2
  all_goals go_quiet (fail)
  all_goals go_wp2
  all_goals go_ret
  all_goals exact ⟨rfl, Aid.grown_drewN (g_four _ _ _ _ _ _ _ _ _ _) _⟩
end Go.Proofs.Ybulkauhy.Op
