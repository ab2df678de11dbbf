/-
  The small functions on the road of 'creditsim.LawS2286ATable', walked.
-/
import Derived.Test.YbulkauhyFlight
import Derived.Test.YbulkauhyFloatPlain
import Derived.Handy
import Derived.WalkLawsBesides
import Derived.Laws.Externs
namespace Go.Proofs.Ybulkauhy.Tb
open Go.ChangeShapes Go.WideShapes Go.ChangeAt Go.RowKit

theorem entryCeil (x : Nat) (h : Fp.ok x) : Extern.MathFloor.toIntegral "math.archCeil" .up #[.float .f64 x] = pure (.float .f64 (Fp.ceilBits x)) := by
  unfold Fp.ok at h
  unfold Fp.ceilBits
  change (match FloatKind.f64.decode x with
    | .nan s t =>
      if FloatKind.f64.format.quiet t = t then pure (.float .f64 x) else do
      let kept ← choose _
      pure (.float .f64 (if kept == 1 then x else FloatKind.f64.encode (.nan s (FloatKind.f64.format.quiet t))))
    | d => pure (.float .f64 (FloatKind.f64.encode (d.integral .up))) : Sem Value) = _
  cases hd : FloatKind.f64.decode x with
  | nan s t =>
    have : Ieee.double.read x = .nan s t := hd
    rw [this] at h; cases h
  | number s m i => rfl
  | infinity s => rfl
theorem callCeil (x : Nat) (h : Fp.ok x) (w : World) : (callFunc 27 #[.float .f64 x]).run Yba.prog w = .ok (.value (.float .f64 (Fp.ceilBits x))) w := by
  rw [run_callFunc_extern (e := Extern.MathFloor.toIntegral "math.archCeil" .up) Yba.func27 (by kernel_rfl) (by kernel_rfl) (by kernel_rfl) (by kernel_rfl), entryCeil x h]
  rfl
theorem callBits (n : Int) (w : World) : (callFunc 29 #[.int .u64 n]).run Yba.prog w = .ok (.value (.float .f64 n.toNat)) w := by
  rw [run_callFunc_extern (e := Extern.MathFloatBits.float64frombits) Yba.func29 (by kernel_rfl) (by kernel_rfl) (by kernel_rfl) (by kernel_rfl)]
  rfl

set_option maxHeartbeats 400000 in
theorem ceil_walk (x : Nat) (h : Fp.ok x) (w : World) : Calls Yba.prog 20 #[.float .f64 x] w fun e w' => e = .returned (.float .f64 (Fp.ceilBits x)) ∧ w' = w := by
  have hc := fun w => callCeil x h w
  go_enter Yba.func20, Yba.ntmps20
  go_wp2
  go_ret
  exact ⟨rfl, rfl⟩
set_option maxHeartbeats 400000 in
theorem inf_walk (w : World) : Calls Yba.prog 22 #[.int .i64 1] w fun e w' => e = .returned (.float .f64 9218868437227405312) ∧ w' = w := by
  have hc := fun n w => callBits n w
  go_enter Yba.func22, Yba.ntmps22
  go_wp2
  go_ret
  exact ⟨rfl, rfl⟩
set_option maxHeartbeats 400000 in
theorem isNaN_walk (x : Nat) (w : World) : Calls Yba.prog 24 #[.float .f64 x] w fun e w' => e = .returned (.bool (FloatKind.f64.format.order x x != some .eq)) ∧ w' = w := by
  go_enter Yba.func24, Yba.ntmps24
  go_wp2
  go_ret
  exact ⟨rfl, rfl⟩
set_option maxHeartbeats 400000 in
theorem isInf_walk (x : Nat) (w : World) : Calls Yba.prog 25 #[.float .f64 x, .int .i64 1] w fun e w' => e = .returned (.bool (FloatKind.f64.format.order x 9218868437227405311 == some .gt)) ∧ w' = w := by
  go_enter Yba.func25, Yba.ntmps25
  go_wp2
  go_ret
  exact ⟨rfl, rfl⟩
set_option maxHeartbeats 400000 in
theorem units_walk (ran se rse x A Q S T : Nat) (hA : floatBits .mul .f64 rse x = some A) (hQ : floatBits .quo .f64 se A = some Q) (hS : floatBits .mul .f64 ran Q = some S) (hT : floatBits .mul .f64 S Q = some T) (w : World) :
    Calls Yba.prog 23 #[.float .f64 ran, .float .f64 se, .float .f64 rse, .float .f64 x] w fun e w' => e = .returned (.float .f64 T) ∧ w' = w := by
  have h1 : ∀ t w, (binOp .mul t (.float .f64 rse) (.float .f64 x)).run Yba.prog w = .ok (.float .f64 A) w := fun t w => run_float_arith w .mul t .f64 _ _ _ hA
  have h2 : ∀ t w, (binOp .quo t (.float .f64 se) (.float .f64 A)).run Yba.prog w = .ok (.float .f64 Q) w := fun t w => run_float_arith w .quo t .f64 _ _ _ hQ
  have h3 : ∀ t w, (binOp .mul t (.float .f64 ran) (.float .f64 Q)).run Yba.prog w = .ok (.float .f64 S) w := fun t w => run_float_arith w .mul t .f64 _ _ _ hS
  have h4 : ∀ t w, (binOp .mul t (.float .f64 S) (.float .f64 Q)).run Yba.prog w = .ok (.float .f64 T) w := fun t w => run_float_arith w .mul t .f64 _ _ _ hT
  clear hA hQ hS hT
  go_enter Yba.func23, Yba.ntmps23
  go_wp2
  go_ret
  exact ⟨rfl, rfl⟩
theorem run_store_float {P : Program} {w : World} {a : Addr} {m : Mode} (k : FloatKind) (b : Nat) : (store a (.float k b) m).run P w = stored P w a (.float k b) m := run_store P w a _ m rfl
attribute [local go_sem] run_store_float
set_option maxHeartbeats 400000 in
theorem asks1_walk (b11 b6 b8 : Nat) (ran se rse x A Q S T : Nat) (hA : floatBits .mul .f64 rse x = some A) (hQ : floatBits .quo .f64 se A = some Q) (hS : floatBits .mul .f64 ran Q = some S) (hT : floatBits .mul .f64 S Q = some T) (w : World)
    (c1 : w.cell? ⟨b11, 0, none⟩ = some (.float .f64 ran)) (c2 : w.cell? ⟨b6, 1, none⟩ = some (.float .f64 se)) (c3 : w.cell? ⟨b8, 0, none⟩ = some (.float .f64 rse)) :
    Calls Yba.prog 19 #[.float .f64 x, .pointer (some ⟨b11, 0, none⟩), .pointer (some ⟨b6, 0, none⟩), .pointer (some ⟨b8, 0, none⟩)] w fun e w' => e = .returned (.float .f64 T) ∧ w' = w := by
  have h1 : ∀ t w, (binOp .mul t (.float .f64 rse) (.float .f64 x)).run Yba.prog w = .ok (.float .f64 A) w := fun t w => run_float_arith w .mul t .f64 _ _ _ hA
  have h2 : ∀ t w, (binOp .quo t (.float .f64 se) (.float .f64 A)).run Yba.prog w = .ok (.float .f64 Q) w := fun t w => run_float_arith w .quo t .f64 _ _ _ hQ
  have h3 : ∀ t w, (binOp .mul t (.float .f64 ran) (.float .f64 Q)).run Yba.prog w = .ok (.float .f64 S) w := fun t w => run_float_arith w .mul t .f64 _ _ _ hS
  have h4 : ∀ t w, (binOp .mul t (.float .f64 S) (.float .f64 Q)).run Yba.prog w = .ok (.float .f64 T) w := fun t w => run_float_arith w .mul t .f64 _ _ _ hT
  clear hA hQ hS hT
  go_enter Yba.func19, Yba.ntmps19
  go_wp2
  go_ret
  exact ⟨rfl, rfl⟩
set_option maxHeartbeats 400000 in
theorem asks2_walk (b6 b8 b7 b13 : Nat) (pv rse rch pu x A B C D : Nat) (hA : floatBits .mul .f64 rse rse = some A) (hB : floatBits .quo .f64 pv A = some B) (hC : floatBits .quo .f64 B rch = some C) (hD : floatBits .quo .f64 C pu = some D) (w : World)
    (c1 : w.cell? ⟨b6, 3, none⟩ = some (.float .f64 pv)) (c2 : w.cell? ⟨b8, 0, none⟩ = some (.float .f64 rse)) (c3 : w.cell? ⟨b7, 0, none⟩ = some (.float .f64 rch)) (c4 : w.cell? ⟨b13, 0, none⟩ = some (.float .f64 pu)) :
    Calls Yba.prog 21 #[.float .f64 x, .pointer (some ⟨b6, 0, none⟩), .pointer (some ⟨b8, 0, none⟩), .pointer (some ⟨b7, 0, none⟩), .pointer (some ⟨b13, 0, none⟩)] w fun e w' => e = .returned (.float .f64 D) ∧ w' = w := by
  have h1 : ∀ t w, (binOp .mul t (.float .f64 rse) (.float .f64 rse)).run Yba.prog w = .ok (.float .f64 A) w := fun t w => run_float_arith w .mul t .f64 _ _ _ hA
  have h2 : ∀ t w, (binOp .quo t (.float .f64 pv) (.float .f64 A)).run Yba.prog w = .ok (.float .f64 B) w := fun t w => run_float_arith w .quo t .f64 _ _ _ hB
  have h3 : ∀ t w, (binOp .quo t (.float .f64 B) (.float .f64 rch)).run Yba.prog w = .ok (.float .f64 C) w := fun t w => run_float_arith w .quo t .f64 _ _ _ hC
  have h4 : ∀ t w, (binOp .quo t (.float .f64 C) (.float .f64 pu)).run Yba.prog w = .ok (.float .f64 D) w := fun t w => run_float_arith w .quo t .f64 _ _ _ hD
  clear hA hB hC hD
  go_enter Yba.func21, Yba.ntmps21
  go_wp2
  go_ret
  exact ⟨rfl, rfl⟩

/-! ### NaN off the tape -/
def nanOf (q : Question) (w : World) : Nat := q.cut (w.tape w.drawn q)
theorem nanOf_bits (x y : Nat) (w : World) : ¬ Fp.ok (nanOf (.nanBits .f64 x y) w) := Fp.drawn_nan _
theorem nanOf_max (x y : Nat) (w : World) : ¬ Fp.ok (nanOf (.nanMinMax .f64 true x y) w) := Fp.drawn_nan _
theorem run_mul_none {P : Program} (w : World) (t : TypeId) (x y : Nat) (h : floatBits .mul .f64 x y = none) : (binOp .mul t (.float .f64 x) (.float .f64 y)).run P w = .ok (.float .f64 (nanOf (.nanBits .f64 x y) w)) w.drew := by
  change FloatKind.f64.format.mul x y = none at h
  simp [binOp, Op.floatArith, h, nanOf, Question.forced]
theorem run_quo_none {P : Program} (w : World) (t : TypeId) (x y : Nat) (h : floatBits .quo .f64 x y = none) : (binOp .quo t (.float .f64 x) (.float .f64 y)).run P w = .ok (.float .f64 (nanOf (.nanBits .f64 x y) w)) w.drew := by
  change FloatKind.f64.format.div x y = none at h
  simp [binOp, Op.floatArith, h, nanOf, Question.forced]
/-- The greater of two, neither a NaN. -/
def maxBits (x y : Nat) : Nat := match FloatKind.f64.format.order x y with | some .lt => y | some .gt => x | _ => if (FloatKind.f64.decode x).neg then y else x
def minBits (x y : Nat) : Nat := match FloatKind.f64.format.order x y with | some .lt => x | some .gt => y | _ => if (FloatKind.f64.decode x).neg then x else y
theorem maxBits_ok {x y : Nat} (hx : Fp.ok x) (hy : Fp.ok y) : Fp.ok (maxBits x y) := by
  unfold maxBits; split <;> first | assumption | (split <;> assumption)
theorem minBits_ok {x y : Nat} (hx : Fp.ok x) (hy : Fp.ok y) : Fp.ok (minBits x y) := by
  unfold minBits; split <;> first | assumption | (split <;> assumption)
theorem run_max2 {P : Program} (x y : Nat) (hx : Fp.ok x) (hy : Fp.ok y) (w : World) : (Builtin.max2 (.float .f64 x) (.float .f64 y)).run P w = .ok (.float .f64 (maxBits x y)) w := by
  obtain ⟨o, ho⟩ := Fp.order_some hx hy
  unfold maxBits
  cases o <;> simp [Builtin.max2, ho]
theorem run_min2 {P : Program} (x y : Nat) (hx : Fp.ok x) (hy : Fp.ok y) (w : World) : (Builtin.min2 (.float .f64 x) (.float .f64 y)).run P w = .ok (.float .f64 (minBits x y)) w := by
  obtain ⟨o, ho⟩ := Fp.order_some hx hy
  unfold minBits
  cases o <;> simp [Builtin.min2, ho]
theorem run_max2_nan {P : Program} (x y : Nat) (hy : ¬ Fp.ok y) (w : World) : (Builtin.max2 (.float .f64 x) (.float .f64 y)).run P w = .ok (.float .f64 (nanOf (.nanMinMax .f64 true x y) w)) w.drew := by
  have ho := Fp.order_nan_right (x := x) hy
  simp [Builtin.max2, ho, nanOf, Question.forced]
set_option maxHeartbeats 400000 in
theorem asks2_nan (b6 b8 b7 b13 : Nat) (pv rse rch pu x A B C : Nat) (hA : floatBits .mul .f64 rse rse = some A) (hB : floatBits .quo .f64 pv A = some B) (hC : floatBits .quo .f64 B rch = some C) (hD : floatBits .quo .f64 C pu = none) (w : World)
    (c1 : w.cell? ⟨b6, 3, none⟩ = some (.float .f64 pv)) (c2 : w.cell? ⟨b8, 0, none⟩ = some (.float .f64 rse)) (c3 : w.cell? ⟨b7, 0, none⟩ = some (.float .f64 rch)) (c4 : w.cell? ⟨b13, 0, none⟩ = some (.float .f64 pu)) :
    Calls Yba.prog 21 #[.float .f64 x, .pointer (some ⟨b6, 0, none⟩), .pointer (some ⟨b8, 0, none⟩), .pointer (some ⟨b7, 0, none⟩), .pointer (some ⟨b13, 0, none⟩)] w fun e w' => (∃ n, e = .returned (.float .f64 n) ∧ ¬ Fp.ok n) ∧ w' = w.drew := by
  have h1 : ∀ t w, (binOp .mul t (.float .f64 rse) (.float .f64 rse)).run Yba.prog w = .ok (.float .f64 A) w := fun t w => run_float_arith w .mul t .f64 _ _ _ hA
  have h2 : ∀ t w, (binOp .quo t (.float .f64 pv) (.float .f64 A)).run Yba.prog w = .ok (.float .f64 B) w := fun t w => run_float_arith w .quo t .f64 _ _ _ hB
  have h3 : ∀ t w, (binOp .quo t (.float .f64 B) (.float .f64 rch)).run Yba.prog w = .ok (.float .f64 C) w := fun t w => run_float_arith w .quo t .f64 _ _ _ hC
  have h4 : ∀ t w, (binOp .quo t (.float .f64 C) (.float .f64 pu)).run Yba.prog w = .ok (.float .f64 (nanOf (.nanBits .f64 C pu) w)) w.drew := fun t w => run_quo_none w t _ _ hD
  clear hA hB hC hD
  go_enter Yba.func21, Yba.ntmps21
  go_wp2
  go_ret
  exact ⟨⟨_, rfl, nanOf_bits _ _ _⟩, rfl⟩
end Go.Proofs.Ybulkauhy.Tb
