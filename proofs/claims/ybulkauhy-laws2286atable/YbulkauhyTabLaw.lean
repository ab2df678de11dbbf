/-
  The walk of 'creditsim.LawS2286ATable': the struct of 51 cells by laws on whole rows; the two functions by their contract.
-/
import Derived.Test.YbulkauhyTabBoth
import Derived.Deep.WholeRow
import Derived.Deep.Cut
namespace Go.Proofs.Ybulkauhy.Tb
open Go.ChangeShapes Go.WideShapes Go.ChangeAt Go.RowKit
attribute [local go_sem] run_store_float
section
variable {ops : Array Oper} {rest : List Oper} {o : Oper} {a : Act} {w : World} {Q : Exit → Act → World → Prop}
theorem wpl_build27 {x y : Operand} {s u : Int} (hg : o.guard = none) (ho : o.op = .build 27 #[(1, x), (8, y)]) (hx : a.eval x = .int .i64 s) (hy : a.eval y = .int .i64 u)
    (h : wpList Yba.prog ops Q rest (a.put o.dst (.agg (resCells s u))) w) : wpList Yba.prog ops Q (o :: rest) a w := by
  have e : Yba.prog.built 27 ((#[(1, x), (8, y)] : Array (Nat × Operand)).map fun (i, x) => (i, a.eval x)).toList = some (resCells s u) := by
    rw [← built27 s u]
    simp [hx, hy]
  refine wpList_build hg 27 _ ho ?_ ?_
  · rw [e]; rfl
  · rw [e]; exact h
theorem zero27 : (Yba.prog.info? 27).map (fun i => (i.zero, i.size)) = some (some (.agg zeroCells), 51) := by kernel_rfl
theorem size27 : (Yba.prog.info? 27).map (·.size) = some 51 := (zero_of_info zero27).2
theorem wpl_alloc27 (hg : o.guard = none) (ho : o.op = .alloc 27)
    (h : wpList Yba.prog ops Q rest (a.put o.dst (.pointer (some ⟨w.heap.size, 0, none⟩))) (w.alloc (.cells zeroCells 27))) : wpList Yba.prog ops Q (o :: rest) a w := by
  refine wpList_plain hg fun _ hK => ?_
  have hz := (zero_of_info zero27).1 w
  unfold Oper.wp execOp
  simp only [ho, Instr.alloc, Sem.run_bind, hz, Result.andThen_ok]
  simp [newVar, newRow, Value.cells]
  exact hK _ _ h
theorem wpl_store27 {x y : Operand} {s u : Int} (hg : o.guard = none) (ho : o.op = .store 27 x y) (hx : a.eval x = .pointer (some ⟨w.heap.size, 0, none⟩)) (hy : a.eval y = .agg (resCells s u))
    (h : wpList Yba.prog ops Q rest (a.put o.dst undef) (w.alloc (.cells (resCells s u) 27))) : wpList Yba.prog ops Q (o :: rest) a (w.alloc (.cells zeroCells 27)) := by
  refine wpList_store_row hg 27 x y ho w.heap.size (resCells s u) hx hy 27 zeroCells (heap_alloc_last w _) size27 rfl (by kernel_rfl) ?_
  rw [World.setRow_alloc_new]
  exact h
theorem wpl_load27 {x : Operand} {s u : Int} {o2 : Obj} (hg : o.guard = none) (ho : o.op = .load 27 x) (hx : a.eval x = .pointer (some ⟨w.heap.size, 0, none⟩))
    (h : wpList Yba.prog ops Q rest (a.put o.dst (.agg (resCells s u))) ((w.alloc (.cells (resCells s u) 27)).alloc o2)) : wpList Yba.prog ops Q (o :: rest) a ((w.alloc (.cells (resCells s u) 27)).alloc o2) :=
  wpList_load_row hg 27 x ho w.heap.size hx 27 (resCells s u) (0, 0) _ (heap_alloc2_old w _ _) Yba.underlying27 rfl size27 h
end
theorem grown_next {W w w' : World} (g : Grown W w) (h : Fl.Kept w.heap.size w w') : Grown W w' := Fl.Kept.grown g h g.2.2
set_option maxHeartbeats 1000000 in
theorem law_j0 (a0 a1 a2 a3 a4 a5 a6 a7 a8 : Int) (a9 : Bool) (w : World) (l0 : 0 ≤ a0) (u0 : a0 ≤ 255) (l1 : 0 ≤ a1) (u1 : a1 ≤ 255) (l2 : 0 ≤ a2) (u2 : a2 ≤ 255) (l3 : 0 ≤ a3) (u3 : a3 ≤ 255) (l4 : 0 ≤ a4) (u4 : a4 ≤ 255) (l5 : 0 ≤ a5) (u5 : a5 ≤ 255) (l6 : 0 ≤ a6) (u6 : a6 ≤ 255) (l7 : 0 ≤ a7) (u7 : a7 ≤ 255) (l8 : -128 ≤ a8) (u8 : a8 ≤ 127)
    (h6 : a6 % 4 = 0) (RSE RCH v : Nat) (hv : Fp.ok v)
    (hR : floatBits .quo .f64 4607182418800017408 (floatOfInt .f64 1) = some RSE) (hC : floatBits .quo .f64 4607182418800017408 (floatOfInt .f64 (a7 % 4 + 1)) = some RCH)
    (HW : Hid (∀ w : World, Calls Yba.prog 10 #[.agg (resCells (a1 % 50) (a0 % 50 + 1)), .agg #[.float .f64 (floatOfInt .f64 (a2 % 8)), .float .f64 (floatOfInt .f64 (a3 % 8)), .float .f64 (floatOfInt .f64 (a4 % 8)), .float .f64 (floatOfInt .f64 (a5 % 8)), .bool a9], .float .f64 RCH, .float .f64 RSE, .int .i64 a8] w fun e w' => e = .returned (.float .f64 v) ∧ Fl.Kept w.heap.size w w'))
    (HR : Hid (∀ w : World, Calls Yba.prog 11 #[.float .f64 (floatOfInt .f64 (a0 % 50 + 1)), .float .f64 (floatOfInt .f64 (a1 % 50)), .float .f64 (floatOfInt .f64 (a2 % 8)), .float .f64 (floatOfInt .f64 (a3 % 8)), .float .f64 (floatOfInt .f64 (a4 % 8)), .float .f64 (floatOfInt .f64 (a5 % 8)), .float .f64 RSE, .float .f64 RCH, .float .f64 (floatOfInt .f64 a8), .bool a9] w fun e w' => e = .returned (.float .f64 v) ∧ Fl.Kept w.heap.size w w')) :
    Calls Yba.prog 3 #[.int .u8 a0, .int .u8 a1, .int .u8 a2, .int .u8 a3, .int .u8 a4, .int .u8 a5, .int .u8 a6, .int .u8 a7, .int .i8 a8, .bool a9] w fun e w' => e = .returned (.bool true) ∧ Grown w w' := by
  have h1 : ∀ w, (binOp .quo 23 (.float .f64 4607182418800017408) (.float .f64 (floatOfInt .f64 1))).run Yba.prog w = .ok (.float .f64 RSE) w := fun w => run_float_arith w .quo 23 .f64 _ _ _ hR
  have h2 : ∀ w, (binOp .quo 23 (.float .f64 4607182418800017408) (.float .f64 (floatOfInt .f64 (a7 % 4 + 1)))).run Yba.prog w = .ok (.float .f64 RCH) w := fun w => run_float_arith w .quo 23 .f64 _ _ _ hC
  have hs := Fp.order_self hv
  clear hR hC hv
  go_enter Yba.func3, Yba.ntmps3
  go_upto_region 9 with fail
  go_upto_region 10 with (first | (refine wpl_build27 rfl rfl rfl rfl ?_) | (refine wpl_alloc27 rfl rfl ?_) | (refine wpl_store27 rfl rfl rfl rfl ?_))
  go_upto_region 11 with fail
  go_wp2_with (refine wpl_load27 rfl rfl rfl ?_)
  refine (HW.out _).mono ?_
  rintro e w1 ⟨rfl, hk1⟩
  have hG1 : Hid (Grown w w1) := grown_next (((Grown.refl _).alloc _ _).alloc _ _) hk1
  clear hk1 HW
  go_wp2_with fail
  refine (HR.out _).mono ?_
  rintro e w2 ⟨rfl, hk2⟩
  have hG2 : Hid (Grown w w2) := grown_next hG1.out hk2
  clear hk2 HR hG1
  go_wp2_with fail
  go_ret
  exact ⟨rfl, hG2.out⟩
set_option maxHeartbeats 1000000 in
theorem law_j1 (a0 a1 a2 a3 a4 a5 a6 a7 a8 : Int) (a9 : Bool) (w : World) (l0 : 0 ≤ a0) (u0 : a0 ≤ 255) (l1 : 0 ≤ a1) (u1 : a1 ≤ 255) (l2 : 0 ≤ a2) (u2 : a2 ≤ 255) (l3 : 0 ≤ a3) (u3 : a3 ≤ 255) (l4 : 0 ≤ a4) (u4 : a4 ≤ 255) (l5 : 0 ≤ a5) (u5 : a5 ≤ 255) (l6 : 0 ≤ a6) (u6 : a6 ≤ 255) (l7 : 0 ≤ a7) (u7 : a7 ≤ 255) (l8 : -128 ≤ a8) (u8 : a8 ≤ 127)
    (h6 : a6 % 4 = 1) (RSE RCH v : Nat) (hv : Fp.ok v)
    (hR : floatBits .quo .f64 4607182418800017408 (floatOfInt .f64 2) = some RSE) (hC : floatBits .quo .f64 4607182418800017408 (floatOfInt .f64 (a7 % 4 + 1)) = some RCH)
    (HW : Hid (∀ w : World, Calls Yba.prog 10 #[.agg (resCells (a1 % 50) (a0 % 50 + 1)), .agg #[.float .f64 (floatOfInt .f64 (a2 % 8)), .float .f64 (floatOfInt .f64 (a3 % 8)), .float .f64 (floatOfInt .f64 (a4 % 8)), .float .f64 (floatOfInt .f64 (a5 % 8)), .bool a9], .float .f64 RCH, .float .f64 RSE, .int .i64 a8] w fun e w' => e = .returned (.float .f64 v) ∧ Fl.Kept w.heap.size w w'))
    (HR : Hid (∀ w : World, Calls Yba.prog 11 #[.float .f64 (floatOfInt .f64 (a0 % 50 + 1)), .float .f64 (floatOfInt .f64 (a1 % 50)), .float .f64 (floatOfInt .f64 (a2 % 8)), .float .f64 (floatOfInt .f64 (a3 % 8)), .float .f64 (floatOfInt .f64 (a4 % 8)), .float .f64 (floatOfInt .f64 (a5 % 8)), .float .f64 RSE, .float .f64 RCH, .float .f64 (floatOfInt .f64 a8), .bool a9] w fun e w' => e = .returned (.float .f64 v) ∧ Fl.Kept w.heap.size w w')) :
    Calls Yba.prog 3 #[.int .u8 a0, .int .u8 a1, .int .u8 a2, .int .u8 a3, .int .u8 a4, .int .u8 a5, .int .u8 a6, .int .u8 a7, .int .i8 a8, .bool a9] w fun e w' => e = .returned (.bool true) ∧ Grown w w' := by
  have h1 : ∀ w, (binOp .quo 23 (.float .f64 4607182418800017408) (.float .f64 (floatOfInt .f64 2))).run Yba.prog w = .ok (.float .f64 RSE) w := fun w => run_float_arith w .quo 23 .f64 _ _ _ hR
  have h2 : ∀ w, (binOp .quo 23 (.float .f64 4607182418800017408) (.float .f64 (floatOfInt .f64 (a7 % 4 + 1)))).run Yba.prog w = .ok (.float .f64 RCH) w := fun w => run_float_arith w .quo 23 .f64 _ _ _ hC
  have hs := Fp.order_self hv
  clear hR hC hv
  go_enter Yba.func3, Yba.ntmps3
  go_upto_region 9 with fail
  go_upto_region 10 with (first | (refine wpl_build27 rfl rfl rfl rfl ?_) | (refine wpl_alloc27 rfl rfl ?_) | (refine wpl_store27 rfl rfl rfl rfl ?_))
  go_upto_region 11 with fail
  go_wp2_with (refine wpl_load27 rfl rfl rfl ?_)
  refine (HW.out _).mono ?_
  rintro e w1 ⟨rfl, hk1⟩
  have hG1 : Hid (Grown w w1) := grown_next (((Grown.refl _).alloc _ _).alloc _ _) hk1
  clear hk1 HW
  go_wp2_with fail
  refine (HR.out _).mono ?_
  rintro e w2 ⟨rfl, hk2⟩
  have hG2 : Hid (Grown w w2) := grown_next hG1.out hk2
  clear hk2 HR hG1
  go_wp2_with fail
  go_ret
  exact ⟨rfl, hG2.out⟩
set_option maxHeartbeats 1000000 in
theorem law_j2 (a0 a1 a2 a3 a4 a5 a6 a7 a8 : Int) (a9 : Bool) (w : World) (l0 : 0 ≤ a0) (u0 : a0 ≤ 255) (l1 : 0 ≤ a1) (u1 : a1 ≤ 255) (l2 : 0 ≤ a2) (u2 : a2 ≤ 255) (l3 : 0 ≤ a3) (u3 : a3 ≤ 255) (l4 : 0 ≤ a4) (u4 : a4 ≤ 255) (l5 : 0 ≤ a5) (u5 : a5 ≤ 255) (l6 : 0 ≤ a6) (u6 : a6 ≤ 255) (l7 : 0 ≤ a7) (u7 : a7 ≤ 255) (l8 : -128 ≤ a8) (u8 : a8 ≤ 127)
    (h6 : a6 % 4 = 2) (RSE RCH v : Nat) (hv : Fp.ok v)
    (hR : floatBits .quo .f64 4607182418800017408 (floatOfInt .f64 4) = some RSE) (hC : floatBits .quo .f64 4607182418800017408 (floatOfInt .f64 (a7 % 4 + 1)) = some RCH)
    (HW : Hid (∀ w : World, Calls Yba.prog 10 #[.agg (resCells (a1 % 50) (a0 % 50 + 1)), .agg #[.float .f64 (floatOfInt .f64 (a2 % 8)), .float .f64 (floatOfInt .f64 (a3 % 8)), .float .f64 (floatOfInt .f64 (a4 % 8)), .float .f64 (floatOfInt .f64 (a5 % 8)), .bool a9], .float .f64 RCH, .float .f64 RSE, .int .i64 a8] w fun e w' => e = .returned (.float .f64 v) ∧ Fl.Kept w.heap.size w w'))
    (HR : Hid (∀ w : World, Calls Yba.prog 11 #[.float .f64 (floatOfInt .f64 (a0 % 50 + 1)), .float .f64 (floatOfInt .f64 (a1 % 50)), .float .f64 (floatOfInt .f64 (a2 % 8)), .float .f64 (floatOfInt .f64 (a3 % 8)), .float .f64 (floatOfInt .f64 (a4 % 8)), .float .f64 (floatOfInt .f64 (a5 % 8)), .float .f64 RSE, .float .f64 RCH, .float .f64 (floatOfInt .f64 a8), .bool a9] w fun e w' => e = .returned (.float .f64 v) ∧ Fl.Kept w.heap.size w w')) :
    Calls Yba.prog 3 #[.int .u8 a0, .int .u8 a1, .int .u8 a2, .int .u8 a3, .int .u8 a4, .int .u8 a5, .int .u8 a6, .int .u8 a7, .int .i8 a8, .bool a9] w fun e w' => e = .returned (.bool true) ∧ Grown w w' := by
  have h1 : ∀ w, (binOp .quo 23 (.float .f64 4607182418800017408) (.float .f64 (floatOfInt .f64 4))).run Yba.prog w = .ok (.float .f64 RSE) w := fun w => run_float_arith w .quo 23 .f64 _ _ _ hR
  have h2 : ∀ w, (binOp .quo 23 (.float .f64 4607182418800017408) (.float .f64 (floatOfInt .f64 (a7 % 4 + 1)))).run Yba.prog w = .ok (.float .f64 RCH) w := fun w => run_float_arith w .quo 23 .f64 _ _ _ hC
  have hs := Fp.order_self hv
  clear hR hC hv
  go_enter Yba.func3, Yba.ntmps3
  go_upto_region 9 with fail
  go_upto_region 10 with (first | (refine wpl_build27 rfl rfl rfl rfl ?_) | (refine wpl_alloc27 rfl rfl ?_) | (refine wpl_store27 rfl rfl rfl rfl ?_))
  go_upto_region 11 with fail
  go_wp2_with (refine wpl_load27 rfl rfl rfl ?_)
  refine (HW.out _).mono ?_
  rintro e w1 ⟨rfl, hk1⟩
  have hG1 : Hid (Grown w w1) := grown_next (((Grown.refl _).alloc _ _).alloc _ _) hk1
  clear hk1 HW
  go_wp2_with fail
  refine (HR.out _).mono ?_
  rintro e w2 ⟨rfl, hk2⟩
  have hG2 : Hid (Grown w w2) := grown_next hG1.out hk2
  clear hk2 HR hG1
  go_wp2_with fail
  go_ret
  exact ⟨rfl, hG2.out⟩
set_option maxHeartbeats 1000000 in
theorem law_j3 (a0 a1 a2 a3 a4 a5 a6 a7 a8 : Int) (a9 : Bool) (w : World) (l0 : 0 ≤ a0) (u0 : a0 ≤ 255) (l1 : 0 ≤ a1) (u1 : a1 ≤ 255) (l2 : 0 ≤ a2) (u2 : a2 ≤ 255) (l3 : 0 ≤ a3) (u3 : a3 ≤ 255) (l4 : 0 ≤ a4) (u4 : a4 ≤ 255) (l5 : 0 ≤ a5) (u5 : a5 ≤ 255) (l6 : 0 ≤ a6) (u6 : a6 ≤ 255) (l7 : 0 ≤ a7) (u7 : a7 ≤ 255) (l8 : -128 ≤ a8) (u8 : a8 ≤ 127)
    (h6 : a6 % 4 = 3) (RSE RCH v : Nat) (hv : Fp.ok v)
    (hR : floatBits .quo .f64 4607182418800017408 (floatOfInt .f64 8) = some RSE) (hC : floatBits .quo .f64 4607182418800017408 (floatOfInt .f64 (a7 % 4 + 1)) = some RCH)
    (HW : Hid (∀ w : World, Calls Yba.prog 10 #[.agg (resCells (a1 % 50) (a0 % 50 + 1)), .agg #[.float .f64 (floatOfInt .f64 (a2 % 8)), .float .f64 (floatOfInt .f64 (a3 % 8)), .float .f64 (floatOfInt .f64 (a4 % 8)), .float .f64 (floatOfInt .f64 (a5 % 8)), .bool a9], .float .f64 RCH, .float .f64 RSE, .int .i64 a8] w fun e w' => e = .returned (.float .f64 v) ∧ Fl.Kept w.heap.size w w'))
    (HR : Hid (∀ w : World, Calls Yba.prog 11 #[.float .f64 (floatOfInt .f64 (a0 % 50 + 1)), .float .f64 (floatOfInt .f64 (a1 % 50)), .float .f64 (floatOfInt .f64 (a2 % 8)), .float .f64 (floatOfInt .f64 (a3 % 8)), .float .f64 (floatOfInt .f64 (a4 % 8)), .float .f64 (floatOfInt .f64 (a5 % 8)), .float .f64 RSE, .float .f64 RCH, .float .f64 (floatOfInt .f64 a8), .bool a9] w fun e w' => e = .returned (.float .f64 v) ∧ Fl.Kept w.heap.size w w')) :
    Calls Yba.prog 3 #[.int .u8 a0, .int .u8 a1, .int .u8 a2, .int .u8 a3, .int .u8 a4, .int .u8 a5, .int .u8 a6, .int .u8 a7, .int .i8 a8, .bool a9] w fun e w' => e = .returned (.bool true) ∧ Grown w w' := by
  have h1 : ∀ w, (binOp .quo 23 (.float .f64 4607182418800017408) (.float .f64 (floatOfInt .f64 8))).run Yba.prog w = .ok (.float .f64 RSE) w := fun w => run_float_arith w .quo 23 .f64 _ _ _ hR
  have h2 : ∀ w, (binOp .quo 23 (.float .f64 4607182418800017408) (.float .f64 (floatOfInt .f64 (a7 % 4 + 1)))).run Yba.prog w = .ok (.float .f64 RCH) w := fun w => run_float_arith w .quo 23 .f64 _ _ _ hC
  have hs := Fp.order_self hv
  clear hR hC hv
  go_enter Yba.func3, Yba.ntmps3
  go_upto_region 9 with fail
  go_upto_region 10 with (first | (refine wpl_build27 rfl rfl rfl rfl ?_) | (refine wpl_alloc27 rfl rfl ?_) | (refine wpl_store27 rfl rfl rfl rfl ?_))
  go_upto_region 11 with fail
  go_wp2_with (refine wpl_load27 rfl rfl rfl ?_)
  refine (HW.out _).mono ?_
  rintro e w1 ⟨rfl, hk1⟩
  have hG1 : Hid (Grown w w1) := grown_next (((Grown.refl _).alloc _ _).alloc _ _) hk1
  clear hk1 HW
  go_wp2_with fail
  refine (HR.out _).mono ?_
  rintro e w2 ⟨rfl, hk2⟩
  have hG2 : Hid (Grown w w2) := grown_next hG1.out hk2
  clear hk2 HR hG1
  go_wp2_with fail
  go_ret
  exact ⟨rfl, hG2.out⟩
/-- Whatever the ten arguments. -/
theorem tab_walk (a0 a1 a2 a3 a4 a5 a6 a7 a8 : Int) (a9 : Bool) (w : World) (l0 : 0 ≤ a0) (u0 : a0 ≤ 255) (l1 : 0 ≤ a1) (u1 : a1 ≤ 255) (l2 : 0 ≤ a2) (u2 : a2 ≤ 255) (l3 : 0 ≤ a3) (u3 : a3 ≤ 255) (l4 : 0 ≤ a4) (u4 : a4 ≤ 255) (l5 : 0 ≤ a5) (u5 : a5 ≤ 255) (l6 : 0 ≤ a6) (u6 : a6 ≤ 255) (l7 : 0 ≤ a7) (u7 : a7 ≤ 255) (l8 : -128 ≤ a8) (u8 : a8 ≤ 127) :
    Calls Yba.prog 3 #[.int .u8 a0, .int .u8 a1, .int .u8 a2, .int .u8 a3, .int .u8 a4, .int .u8 a5, .int .u8 a6, .int .u8 a7, .int .i8 a8, .bool a9] w fun e w' => e = .returned (.bool true) ∧ Grown w w' := by
  obtain ⟨s, hs, hs2⟩ : ∃ s : Nat, a1 % 50 = s ∧ s < 51 := ⟨(a1 % 50).toNat, by omega, by omega⟩
  obtain ⟨u, hu, hu1, hu2⟩ : ∃ u : Nat, a0 % 50 + 1 = u ∧ 1 ≤ u ∧ u < 51 := ⟨(a0 % 50 + 1).toNat, by omega, by omega, by omega⟩
  obtain ⟨e, he, he2⟩ : ∃ e : Nat, a2 % 8 = e ∧ e < 8 := ⟨(a2 % 8).toNat, by omega, by omega⟩
  obtain ⟨g, hg, hg2⟩ : ∃ g : Nat, a3 % 8 = g ∧ g < 8 := ⟨(a3 % 8).toNat, by omega, by omega⟩
  obtain ⟨m, hm, hm2⟩ : ∃ m : Nat, a4 % 8 = m ∧ m < 8 := ⟨(a4 % 8).toNat, by omega, by omega⟩
  obtain ⟨p, hp, hp2⟩ : ∃ p : Nat, a5 % 8 = p ∧ p < 8 := ⟨(a5 % 8).toNat, by omega, by omega⟩
  obtain ⟨r, hr, hr2⟩ : ∃ r : Nat, a7 % 4 + 1 = ((r + 1 : Nat) : Int) ∧ r < 4 := ⟨(a7 % 4).toNat, by omega, by omega⟩
  obtain ⟨R, hR, hnz⟩ := rch_one hr2
  have hC : floatBits .quo .f64 4607182418800017408 (floatOfInt .f64 (a7 % 4 + 1)) = some R := by rw [hr]; exact hR
  have key : ∀ j : Nat, j < 4 → ∃ v, Fp.ok v ∧ Same s u a8 (fl e) (fl g) (fl m) (fl p) R (rseBits j) a9 v := fun j hj => same hu1 hu2 hs2 he2 hg2 hm2 hp2 hj hnz
  have h4 : a6 % 4 = 0 ∨ a6 % 4 = 1 ∨ a6 % 4 = 2 ∨ a6 % 4 = 3 := by omega
  rcases h4 with h6 | h6 | h6 | h6
  · obtain ⟨v, hv, hW, hF⟩ := key 0 (by omega)
    refine law_j0 a0 a1 a2 a3 a4 a5 a6 a7 a8 a9 w l0 u0 l1 u1 l2 u2 l3 u3 l4 u4 l5 u5 l6 u6 l7 u7 l8 u8 h6 (rseBits 0) R v hv (rse_one (j := 0) (by omega)) hC ?_ ?_
    · rw [hs, hu, he, hg, hm, hp]; exact hW
    · rw [hs, hu, he, hg, hm, hp]; exact hF
  · obtain ⟨v, hv, hW, hF⟩ := key 1 (by omega)
    refine law_j1 a0 a1 a2 a3 a4 a5 a6 a7 a8 a9 w l0 u0 l1 u1 l2 u2 l3 u3 l4 u4 l5 u5 l6 u6 l7 u7 l8 u8 h6 (rseBits 1) R v hv (rse_one (j := 1) (by omega)) hC ?_ ?_
    · rw [hs, hu, he, hg, hm, hp]; exact hW
    · rw [hs, hu, he, hg, hm, hp]; exact hF
  · obtain ⟨v, hv, hW, hF⟩ := key 2 (by omega)
    refine law_j2 a0 a1 a2 a3 a4 a5 a6 a7 a8 a9 w l0 u0 l1 u1 l2 u2 l3 u3 l4 u4 l5 u5 l6 u6 l7 u7 l8 u8 h6 (rseBits 2) R v hv (rse_one (j := 2) (by omega)) hC ?_ ?_
    · rw [hs, hu, he, hg, hm, hp]; exact hW
    · rw [hs, hu, he, hg, hm, hp]; exact hF
  · obtain ⟨v, hv, hW, hF⟩ := key 3 (by omega)
    refine law_j3 a0 a1 a2 a3 a4 a5 a6 a7 a8 a9 w l0 u0 l1 u1 l2 u2 l3 u3 l4 u4 l5 u5 l6 u6 l7 u7 l8 u8 h6 (rseBits 3) R v hv (rse_one (j := 3) (by omega)) hC ?_ ?_
    · rw [hs, hu, he, hg, hm, hp]; exact hW
    · rw [hs, hu, he, hg, hm, hp]; exact hF
end Go.Proofs.Ybulkauhy.Tb
