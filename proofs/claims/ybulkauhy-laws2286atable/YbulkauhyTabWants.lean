/-
  '(creditsim.Result).wants' walked, a way a theorem.
-/
import Derived.Test.YbulkauhyTabSmall
namespace Go.Proofs.Ybulkauhy.Tb
open Go.ChangeShapes Go.WideShapes Go.ChangeAt Go.RowKit
attribute [local go_sem] run_store_float
/-- The cells of 'Result{Sessions: s, units: u}'. -/
def resCells (s u : Int) : Array Value := #[.int .i64 0, .int .i64 s, .int .i64 0, .int .i64 0, .int .i64 0, .int .i64 0, .int .i64 0, .bool false, .int .i64 u, .float .f64 0, .float .f64 0, .float .f64 0, .float .f64 0, .float .f64 0, .int .i64 0, .bool false, .float .f64 0, .float .f64 0, .float .f64 0, .float .f64 0, .float .f64 0, .int .i64 0, .bool false, .float .f64 0, .float .f64 0, .float .f64 0, .float .f64 0, .float .f64 0, .int .i64 0, .bool false, .float .f64 0, .float .f64 0, .float .f64 0, .float .f64 0, .float .f64 0, .int .i64 0, .bool false, .float .f64 0, .float .f64 0, .float .f64 0, .float .f64 0, .float .f64 0, .int .i64 0, .bool false, .float .f64 0, .float .f64 0, .float .f64 0, .float .f64 0, .float .f64 0, .int .i64 0, .bool false]
def zeroCells : Array Value := #[.int .i64 0, .int .i64 0, .int .i64 0, .int .i64 0, .int .i64 0, .int .i64 0, .int .i64 0, .bool false, .int .i64 0, .float .f64 0, .float .f64 0, .float .f64 0, .float .f64 0, .float .f64 0, .int .i64 0, .bool false, .float .f64 0, .float .f64 0, .float .f64 0, .float .f64 0, .float .f64 0, .int .i64 0, .bool false, .float .f64 0, .float .f64 0, .float .f64 0, .float .f64 0, .float .f64 0, .int .i64 0, .bool false, .float .f64 0, .float .f64 0, .float .f64 0, .float .f64 0, .float .f64 0, .int .i64 0, .bool false, .float .f64 0, .float .f64 0, .float .f64 0, .float .f64 0, .float .f64 0, .int .i64 0, .bool false, .float .f64 0, .float .f64 0, .float .f64 0, .float .f64 0, .float .f64 0, .int .i64 0, .bool false]
theorem res1 (s u : Int) : (resCells s u)[1]? = some (.int .i64 s) := rfl
theorem res8 (s u : Int) : (resCells s u)[8]? = some (.int .i64 u) := rfl
theorem built27 (s u : Int) : Yba.prog.built 27 [(1, .int .i64 s), (8, .int .i64 u)] = some (resCells s u) := by kernel_rfl
theorem run_max_ {P : Program} (x y : Nat) (hx : Fp.ok x) (hy : Fp.ok y) (ts : Array TypeId) (t : TypeId) (w : World) : (Builtin.max_ ts t #[.float .f64 x, .float .f64 y]).run P w = .ok (.float .f64 (maxBits x y)) w := by
  simp [Builtin.max_, run_max2 x y hx hy]
theorem run_min_ {P : Program} (x y : Nat) (hx : Fp.ok x) (hy : Fp.ok y) (ts : Array TypeId) (t : TypeId) (w : World) : (Builtin.min_ ts t #[.float .f64 x, .float .f64 y]).run P w = .ok (.float .f64 (minBits x y)) w := by
  simp [Builtin.min_, run_min2 x y hx hy]
theorem run_max_nan {P : Program} (x y : Nat) (hy : ¬ Fp.ok y) (ts : Array TypeId) (t : TypeId) (w : World) : (Builtin.max_ ts t #[.float .f64 x, .float .f64 y]).run P w = .ok (.float .f64 (nanOf (.nanMinMax .f64 true x y) w)) w.drew := by
  simp [Builtin.max_, run_max2_nan x y hy]
set_option maxHeartbeats 400000 in
theorem wants_p1 (s u f : Int) (est se mod pv rch rse A : Nat) (w : World)
    (g1 : (FloatKind.f64.format.order est 0 == some .gt) = true) (hA : floatBits .mul .f64 rse est = some A) (g2 : (FloatKind.f64.format.order se A == some .lt || FloatKind.f64.format.order se A == some .eq) = true) (md : Bool) :
    Calls Yba.prog 10 #[.agg (resCells s u), .agg #[.float .f64 est, .float .f64 se, .float .f64 mod, .float .f64 pv, .bool md], .float .f64 rch, .float .f64 rse, .int .i64 f] w fun e w' => e = .returned (.float .f64 0) ∧ Fl.Kept w.heap.size w w' := by
  have h1 : ∀ t w, (binOp .mul t (.float .f64 rse) (.float .f64 est)).run Yba.prog w = .ok (.float .f64 A) w := fun t w => run_float_arith w .mul t .f64 _ _ _ hA
  clear hA
  go_enter Yba.func10, Yba.ntmps10
  go_wp2_with fail
  go_ret
  exact ⟨rfl, ((((Fl.Kept.refl _ _).alloc _ _).alloc _ _).alloc _ _).alloc _ _⟩
set_option maxHeartbeats 400000 in
theorem wants_p2 (s u f : Int) (est se mod pv rch rse A Q S T : Nat) (w : World)
    (g1 : (FloatKind.f64.format.order est 0 == some .gt) = true) (hA : floatBits .mul .f64 rse est = some A) (g2 : (FloatKind.f64.format.order se A == some .lt || FloatKind.f64.format.order se A == some .eq) = false) (g3 : (FloatKind.f64.format.order se 0 == some .gt) = true) (hQ : floatBits .quo .f64 se A = some Q) (hS : floatBits .mul .f64 (floatOfInt .f64 u) Q = some S) (hT : floatBits .mul .f64 S Q = some T) :
    Calls Yba.prog 10 #[.agg (resCells s u), .agg #[.float .f64 est, .float .f64 se, .float .f64 mod, .float .f64 pv, .bool false], .float .f64 rch, .float .f64 rse, .int .i64 f] w fun e w' => e = .returned (.float .f64 (Fp.ceilBits T)) ∧ Fl.Kept w.heap.size w w' := by
  have h1 : ∀ t w, (binOp .mul t (.float .f64 rse) (.float .f64 est)).run Yba.prog w = .ok (.float .f64 A) w := fun t w => run_float_arith w .mul t .f64 _ _ _ hA
  have hmf : ∀ (fn : Fn) (first cap : Array Value) (w : World), (Instr.makeFunc fn first cap).run Yba.prog w = .ok (.func fn first cap) w := fun _ _ _ _ => rfl
  have hnot : ∀ (x : Bool) (w : World), (Op.unary .not (.bool x)).run Yba.prog w = .ok (.bool (!x)) w := fun _ _ => rfl
  have e8 := res8 s u
  have e1 := res1 s u
  have V2 : Hid (floatBits .mul .f64 rse est = some A ∧ floatBits .quo .f64 se A = some Q ∧ floatBits .mul .f64 (floatOfInt .f64 u) Q = some S ∧ floatBits .mul .f64 S Q = some T) := ⟨hA, hQ, hS, hT⟩
  clear hA hQ hS hT
  go_enter Yba.func10, Yba.ntmps10
  go_wp2_with fail
  refine (asks1_walk _ _ _ (floatOfInt .f64 u) se rse est A Q S T V2.out.1 V2.out.2.1 V2.out.2.2.1 V2.out.2.2.2 _ ?_ ?_ ?_).mono ?_
  · go_simp
  · go_simp
  · go_simp
  rintro e w1 ⟨rfl, rfl⟩
  go_wp2_with (go_at_call 20; refine (ceil_walk T (Fp.mul_ok V2.out.2.2.2) _).mono ?_; rintro e w1 ⟨rfl, rfl⟩)
  go_ret
  exact ⟨rfl, (((((Fl.Kept.refl _ _).alloc _ _).alloc _ _).alloc _ _).alloc _ _).alloc _ _⟩
set_option maxHeartbeats 400000 in
theorem wants_p3 (s u f : Int) (est se mod pv rch rse : Nat) (w : World)
    (g1 : (FloatKind.f64.format.order est 0 == some .gt) = false) :
    Calls Yba.prog 10 #[.agg (resCells s u), .agg #[.float .f64 est, .float .f64 se, .float .f64 mod, .float .f64 pv, .bool false], .float .f64 rch, .float .f64 rse, .int .i64 f] w fun e w' => e = .returned (.float .f64 0) ∧ Fl.Kept w.heap.size w w' := by
  have hmf : ∀ (fn : Fn) (first cap : Array Value) (w : World), (Instr.makeFunc fn first cap).run Yba.prog w = .ok (.func fn first cap) w := fun _ _ _ _ => rfl
  have hnot : ∀ (x : Bool) (w : World), (Op.unary .not (.bool x)).run Yba.prog w = .ok (.bool (!x)) w := fun _ _ => rfl
  have e8 := res8 s u
  have e1 := res1 s u
  go_enter Yba.func10, Yba.ntmps10
  go_wp2_with fail
  go_ret
  exact ⟨rfl, (((((Fl.Kept.refl _ _).alloc _ _).alloc _ _).alloc _ _).alloc _ _).alloc _ _⟩
set_option maxHeartbeats 400000 in
theorem wants_p4at (s u f : Int) (est se mod pv rch rse A A' Q' S' T' M : Nat) (w : World)
    (g1 : (FloatKind.f64.format.order est 0 == some .gt) = true) (hA : floatBits .mul .f64 rse est = some A) (g2 : (FloatKind.f64.format.order se A == some .lt || FloatKind.f64.format.order se A == some .eq) = false) (g3 : (FloatKind.f64.format.order se 0 == some .gt) = true) (hA' : floatBits .mul .f64 rse mod = some A') (hQ' : floatBits .quo .f64 se A' = some Q') (hS' : floatBits .mul .f64 (floatOfInt .f64 u) Q' = some S') (hT' : floatBits .mul .f64 S' Q' = some T') (hM : floatBits .mul .f64 4616189618054758400 T' = some M) (g4 : (FloatKind.f64.format.order (maxBits (floatOfInt .f64 f) M) 9218868437227405312 == some .lt) = false) :
    Calls Yba.prog 10 #[.agg (resCells s u), .agg #[.float .f64 est, .float .f64 se, .float .f64 mod, .float .f64 pv, .bool true], .float .f64 rch, .float .f64 rse, .int .i64 f] w fun e w' => e = .returned (.float .f64 0) ∧ Fl.Kept w.heap.size w w' := by
  have h1 : ∀ t w, (binOp .mul t (.float .f64 rse) (.float .f64 est)).run Yba.prog w = .ok (.float .f64 A) w := fun t w => run_float_arith w .mul t .f64 _ _ _ hA
  have h2 : ∀ t w, (binOp .mul t (.float .f64 4616189618054758400) (.float .f64 T')).run Yba.prog w = .ok (.float .f64 M) w := fun t w => run_float_arith w .mul t .f64 _ _ _ hM
  have h3 := fun w => run_max_ (P := Yba.prog) (floatOfInt .f64 f) M (Fp.ofInt_ok f) (Fp.mul_ok hM) #[23, 23] 23 w
  have hmf : ∀ (fn : Fn) (first cap : Array Value) (w : World), (Instr.makeFunc fn first cap).run Yba.prog w = .ok (.func fn first cap) w := fun _ _ _ _ => rfl
  have hnot : ∀ (x : Bool) (w : World), (Op.unary .not (.bool x)).run Yba.prog w = .ok (.bool (!x)) w := fun _ _ => rfl
  have e8 := res8 s u
  have e1 := res1 s u
  have V : Hid (floatBits .mul .f64 rse mod = some A' ∧ floatBits .quo .f64 se A' = some Q' ∧ floatBits .mul .f64 (floatOfInt .f64 u) Q' = some S' ∧ floatBits .mul .f64 S' Q' = some T') := ⟨hA', hQ', hS', hT'⟩
  clear hA hA' hQ' hS' hT' hM
  go_enter Yba.func10, Yba.ntmps10
  go_wp2_with fail
  refine (asks1_walk _ _ _ (floatOfInt .f64 u) se rse mod A' Q' S' T' V.out.1 V.out.2.1 V.out.2.2.1 V.out.2.2.2 _ ?_ ?_ ?_).mono ?_
  · go_simp
  · go_simp
  · go_simp
  rintro e w1 ⟨rfl, rfl⟩
  go_wp2_with (go_at_call 22; refine (inf_walk _).mono ?_; rintro e w1 ⟨rfl, rfl⟩)
  go_ret
  exact ⟨rfl, (((((Fl.Kept.refl _ _).alloc _ _).alloc _ _).alloc _ _).alloc _ _).alloc _ _⟩
set_option maxHeartbeats 400000 in
theorem wants_p4af (s u f : Int) (est se mod pv rch rse A' Q' S' T' M : Nat) (w : World)
    (g1 : (FloatKind.f64.format.order est 0 == some .gt) = false) (g3 : (FloatKind.f64.format.order se 0 == some .gt) = true) (hA' : floatBits .mul .f64 rse mod = some A') (hQ' : floatBits .quo .f64 se A' = some Q') (hS' : floatBits .mul .f64 (floatOfInt .f64 u) Q' = some S') (hT' : floatBits .mul .f64 S' Q' = some T') (hM : floatBits .mul .f64 4616189618054758400 T' = some M) (g4 : (FloatKind.f64.format.order (maxBits (floatOfInt .f64 f) M) 9218868437227405312 == some .lt) = false) :
    Calls Yba.prog 10 #[.agg (resCells s u), .agg #[.float .f64 est, .float .f64 se, .float .f64 mod, .float .f64 pv, .bool true], .float .f64 rch, .float .f64 rse, .int .i64 f] w fun e w' => e = .returned (.float .f64 0) ∧ Fl.Kept w.heap.size w w' := by
  have h2 : ∀ t w, (binOp .mul t (.float .f64 4616189618054758400) (.float .f64 T')).run Yba.prog w = .ok (.float .f64 M) w := fun t w => run_float_arith w .mul t .f64 _ _ _ hM
  have h3 := fun w => run_max_ (P := Yba.prog) (floatOfInt .f64 f) M (Fp.ofInt_ok f) (Fp.mul_ok hM) #[23, 23] 23 w
  have hmf : ∀ (fn : Fn) (first cap : Array Value) (w : World), (Instr.makeFunc fn first cap).run Yba.prog w = .ok (.func fn first cap) w := fun _ _ _ _ => rfl
  have hnot : ∀ (x : Bool) (w : World), (Op.unary .not (.bool x)).run Yba.prog w = .ok (.bool (!x)) w := fun _ _ => rfl
  have e8 := res8 s u
  have e1 := res1 s u
  have V : Hid (floatBits .mul .f64 rse mod = some A' ∧ floatBits .quo .f64 se A' = some Q' ∧ floatBits .mul .f64 (floatOfInt .f64 u) Q' = some S' ∧ floatBits .mul .f64 S' Q' = some T') := ⟨hA', hQ', hS', hT'⟩
  clear hA' hQ' hS' hT' hM
  go_enter Yba.func10, Yba.ntmps10
  go_wp2_with fail
  refine (asks1_walk _ _ _ (floatOfInt .f64 u) se rse mod A' Q' S' T' V.out.1 V.out.2.1 V.out.2.2.1 V.out.2.2.2 _ ?_ ?_ ?_).mono ?_
  · go_simp
  · go_simp
  · go_simp
  rintro e w1 ⟨rfl, rfl⟩
  go_wp2_with (go_at_call 22; refine (inf_walk _).mono ?_; rintro e w1 ⟨rfl, rfl⟩)
  go_ret
  exact ⟨rfl, (((((Fl.Kept.refl _ _).alloc _ _).alloc _ _).alloc _ _).alloc _ _).alloc _ _⟩
set_option maxHeartbeats 400000 in
theorem wants_p4b (s u f : Int) (est se mod pv rch rse A Q S T A' Q' S' T' M : Nat) (w : World)
    (g1 : (FloatKind.f64.format.order est 0 == some .gt) = true) (hA : floatBits .mul .f64 rse est = some A) (g2 : (FloatKind.f64.format.order se A == some .lt || FloatKind.f64.format.order se A == some .eq) = false) (g3 : (FloatKind.f64.format.order se 0 == some .gt) = true) (hA' : floatBits .mul .f64 rse mod = some A') (hQ' : floatBits .quo .f64 se A' = some Q') (hS' : floatBits .mul .f64 (floatOfInt .f64 u) Q' = some S') (hT' : floatBits .mul .f64 S' Q' = some T') (hM : floatBits .mul .f64 4616189618054758400 T' = some M) (g4 : (FloatKind.f64.format.order (maxBits (floatOfInt .f64 f) M) 9218868437227405312 == some .lt) = true) (hQ : floatBits .quo .f64 se A = some Q) (hS : floatBits .mul .f64 (floatOfInt .f64 u) Q = some S) (hT : floatBits .mul .f64 S Q = some T) :
    Calls Yba.prog 10 #[.agg (resCells s u), .agg #[.float .f64 est, .float .f64 se, .float .f64 mod, .float .f64 pv, .bool true], .float .f64 rch, .float .f64 rse, .int .i64 f] w fun e w' => e = .returned (.float .f64 (minBits (Fp.ceilBits T) (maxBits (floatOfInt .f64 f) M))) ∧ Fl.Kept w.heap.size w w' := by
  have h1 : ∀ t w, (binOp .mul t (.float .f64 rse) (.float .f64 est)).run Yba.prog w = .ok (.float .f64 A) w := fun t w => run_float_arith w .mul t .f64 _ _ _ hA
  have h2 : ∀ t w, (binOp .mul t (.float .f64 4616189618054758400) (.float .f64 T')).run Yba.prog w = .ok (.float .f64 M) w := fun t w => run_float_arith w .mul t .f64 _ _ _ hM
  have h3 := fun w => run_max_ (P := Yba.prog) (floatOfInt .f64 f) M (Fp.ofInt_ok f) (Fp.mul_ok hM) #[23, 23] 23 w
  have h4 := fun w => run_min_ (P := Yba.prog) (Fp.ceilBits T) (maxBits (floatOfInt .f64 f) M) (Fp.ceil_ok (Fp.mul_ok hT)) (maxBits_ok (Fp.ofInt_ok f) (Fp.mul_ok hM)) #[23, 23] 23 w
  have hmf : ∀ (fn : Fn) (first cap : Array Value) (w : World), (Instr.makeFunc fn first cap).run Yba.prog w = .ok (.func fn first cap) w := fun _ _ _ _ => rfl
  have hnot : ∀ (x : Bool) (w : World), (Op.unary .not (.bool x)).run Yba.prog w = .ok (.bool (!x)) w := fun _ _ => rfl
  have e8 := res8 s u
  have e1 := res1 s u
  have V : Hid (floatBits .mul .f64 rse mod = some A' ∧ floatBits .quo .f64 se A' = some Q' ∧ floatBits .mul .f64 (floatOfInt .f64 u) Q' = some S' ∧ floatBits .mul .f64 S' Q' = some T') := ⟨hA', hQ', hS', hT'⟩
  have V2 : Hid (floatBits .mul .f64 rse est = some A ∧ floatBits .quo .f64 se A = some Q ∧ floatBits .mul .f64 (floatOfInt .f64 u) Q = some S ∧ floatBits .mul .f64 S Q = some T) := ⟨hA, hQ, hS, hT⟩
  clear hA hQ hS hT hA' hQ' hS' hT' hM
  go_enter Yba.func10, Yba.ntmps10
  go_wp2_with fail
  refine (asks1_walk _ _ _ (floatOfInt .f64 u) se rse mod A' Q' S' T' V.out.1 V.out.2.1 V.out.2.2.1 V.out.2.2.2 _ ?_ ?_ ?_).mono ?_
  · go_simp
  · go_simp
  · go_simp
  rintro e w1 ⟨rfl, rfl⟩
  go_wp2_with (go_at_call 22; refine (inf_walk _).mono ?_; rintro e w1 ⟨rfl, rfl⟩)
  refine (asks1_walk _ _ _ (floatOfInt .f64 u) se rse est A Q S T V2.out.1 V2.out.2.1 V2.out.2.2.1 V2.out.2.2.2 _ ?_ ?_ ?_).mono ?_
  · go_simp
  · go_simp
  · go_simp
  rintro e w1 ⟨rfl, rfl⟩
  go_wp2_with (go_at_call 20; refine (ceil_walk T (Fp.mul_ok V2.out.2.2.2) _).mono ?_; rintro e w1 ⟨rfl, rfl⟩)
  go_ret
  exact ⟨rfl, (((((Fl.Kept.refl _ _).alloc _ _).alloc _ _).alloc _ _).alloc _ _).alloc _ _⟩
set_option maxHeartbeats 400000 in
theorem wants_p4c (s u f : Int) (est se mod pv rch rse A' Q' S' T' M : Nat) (w : World)
    (g1 : (FloatKind.f64.format.order est 0 == some .gt) = false) (g3 : (FloatKind.f64.format.order se 0 == some .gt) = true) (hA' : floatBits .mul .f64 rse mod = some A') (hQ' : floatBits .quo .f64 se A' = some Q') (hS' : floatBits .mul .f64 (floatOfInt .f64 u) Q' = some S') (hT' : floatBits .mul .f64 S' Q' = some T') (hM : floatBits .mul .f64 4616189618054758400 T' = some M) (g4 : (FloatKind.f64.format.order (maxBits (floatOfInt .f64 f) M) 9218868437227405312 == some .lt) = true) :
    Calls Yba.prog 10 #[.agg (resCells s u), .agg #[.float .f64 est, .float .f64 se, .float .f64 mod, .float .f64 pv, .bool true], .float .f64 rch, .float .f64 rse, .int .i64 f] w fun e w' => e = .returned (.float .f64 (maxBits (floatOfInt .f64 f) M)) ∧ Fl.Kept w.heap.size w w' := by
  have h2 : ∀ t w, (binOp .mul t (.float .f64 4616189618054758400) (.float .f64 T')).run Yba.prog w = .ok (.float .f64 M) w := fun t w => run_float_arith w .mul t .f64 _ _ _ hM
  have h3 := fun w => run_max_ (P := Yba.prog) (floatOfInt .f64 f) M (Fp.ofInt_ok f) (Fp.mul_ok hM) #[23, 23] 23 w
  have hmf : ∀ (fn : Fn) (first cap : Array Value) (w : World), (Instr.makeFunc fn first cap).run Yba.prog w = .ok (.func fn first cap) w := fun _ _ _ _ => rfl
  have hnot : ∀ (x : Bool) (w : World), (Op.unary .not (.bool x)).run Yba.prog w = .ok (.bool (!x)) w := fun _ _ => rfl
  have e8 := res8 s u
  have e1 := res1 s u
  have V : Hid (floatBits .mul .f64 rse mod = some A' ∧ floatBits .quo .f64 se A' = some Q' ∧ floatBits .mul .f64 (floatOfInt .f64 u) Q' = some S' ∧ floatBits .mul .f64 S' Q' = some T') := ⟨hA', hQ', hS', hT'⟩
  clear hA' hQ' hS' hT' hM
  go_enter Yba.func10, Yba.ntmps10
  go_wp2_with fail
  refine (asks1_walk _ _ _ (floatOfInt .f64 u) se rse mod A' Q' S' T' V.out.1 V.out.2.1 V.out.2.2.1 V.out.2.2.2 _ ?_ ?_ ?_).mono ?_
  · go_simp
  · go_simp
  · go_simp
  rintro e w1 ⟨rfl, rfl⟩
  go_wp2_with (go_at_call 22; refine (inf_walk _).mono ?_; rintro e w1 ⟨rfl, rfl⟩)
  go_ret
  exact ⟨rfl, (((((Fl.Kept.refl _ _).alloc _ _).alloc _ _).alloc _ _).alloc _ _).alloc _ _⟩
set_option maxHeartbeats 400000 in
theorem wants_p5a (s u f : Int) (est se mod pv rch rse PU A B C D M : Nat) (w : World)
    (g1 : (FloatKind.f64.format.order est 0 == some .gt) = false) (g3 : (FloatKind.f64.format.order se 0 == some .gt) = false) (hU : floatBits .quo .f64 (floatOfInt .f64 s) (floatOfInt .f64 u) = some PU) (hA : floatBits .mul .f64 rse rse = some A) (hB : floatBits .quo .f64 pv A = some B) (hC : floatBits .quo .f64 B rch = some C) (hD : floatBits .quo .f64 C PU = some D) (hM : floatBits .mul .f64 4616189618054758400 D = some M) (g4 : (FloatKind.f64.format.order (maxBits (floatOfInt .f64 f) M) 9218868437227405312 == some .lt) = false) :
    Calls Yba.prog 10 #[.agg (resCells s u), .agg #[.float .f64 est, .float .f64 se, .float .f64 mod, .float .f64 pv, .bool true], .float .f64 rch, .float .f64 rse, .int .i64 f] w fun e w' => e = .returned (.float .f64 0) ∧ Fl.Kept w.heap.size w w' := by
  have h0 : ∀ t w, (binOp .quo t (.float .f64 (floatOfInt .f64 s)) (.float .f64 (floatOfInt .f64 u))).run Yba.prog w = .ok (.float .f64 PU) w := fun t w => run_float_arith w .quo t .f64 _ _ _ hU
  have h2 : ∀ t w, (binOp .mul t (.float .f64 4616189618054758400) (.float .f64 D)).run Yba.prog w = .ok (.float .f64 M) w := fun t w => run_float_arith w .mul t .f64 _ _ _ hM
  have h3 := fun w => run_max_ (P := Yba.prog) (floatOfInt .f64 f) M (Fp.ofInt_ok f) (Fp.mul_ok hM) #[23, 23] 23 w
  have hmf : ∀ (fn : Fn) (first cap : Array Value) (w : World), (Instr.makeFunc fn first cap).run Yba.prog w = .ok (.func fn first cap) w := fun _ _ _ _ => rfl
  have hnot : ∀ (x : Bool) (w : World), (Op.unary .not (.bool x)).run Yba.prog w = .ok (.bool (!x)) w := fun _ _ => rfl
  have e8 := res8 s u
  have e1 := res1 s u
  have V : Hid (floatBits .mul .f64 rse rse = some A ∧ floatBits .quo .f64 pv A = some B ∧ floatBits .quo .f64 B rch = some C ∧ floatBits .quo .f64 C PU = some D) := ⟨hA, hB, hC, hD⟩
  clear hU hA hB hC hD hM
  go_enter Yba.func10, Yba.ntmps10
  go_wp2_with fail
  refine (asks2_walk _ _ _ _ pv rse rch PU mod A B C D V.out.1 V.out.2.1 V.out.2.2.1 V.out.2.2.2 _ ?_ ?_ ?_ ?_).mono ?_
  · go_simp
  · go_simp
  · go_simp
  · go_simp
  rintro e w1 ⟨rfl, rfl⟩
  go_wp2_with (go_at_call 22; refine (inf_walk _).mono ?_; rintro e w1 ⟨rfl, rfl⟩)
  go_ret
  exact ⟨rfl, ((((((Fl.Kept.refl _ _).alloc _ _).alloc _ _).alloc _ _).alloc _ _).alloc _ _).alloc _ _⟩
set_option maxHeartbeats 400000 in
theorem wants_p5c (s u f : Int) (est se mod pv rch rse PU A B C D M : Nat) (w : World)
    (g1 : (FloatKind.f64.format.order est 0 == some .gt) = false) (g3 : (FloatKind.f64.format.order se 0 == some .gt) = false) (hU : floatBits .quo .f64 (floatOfInt .f64 s) (floatOfInt .f64 u) = some PU) (hA : floatBits .mul .f64 rse rse = some A) (hB : floatBits .quo .f64 pv A = some B) (hC : floatBits .quo .f64 B rch = some C) (hD : floatBits .quo .f64 C PU = some D) (hM : floatBits .mul .f64 4616189618054758400 D = some M) (g4 : (FloatKind.f64.format.order (maxBits (floatOfInt .f64 f) M) 9218868437227405312 == some .lt) = true) :
    Calls Yba.prog 10 #[.agg (resCells s u), .agg #[.float .f64 est, .float .f64 se, .float .f64 mod, .float .f64 pv, .bool true], .float .f64 rch, .float .f64 rse, .int .i64 f] w fun e w' => e = .returned (.float .f64 (maxBits (floatOfInt .f64 f) M)) ∧ Fl.Kept w.heap.size w w' := by
  have h0 : ∀ t w, (binOp .quo t (.float .f64 (floatOfInt .f64 s)) (.float .f64 (floatOfInt .f64 u))).run Yba.prog w = .ok (.float .f64 PU) w := fun t w => run_float_arith w .quo t .f64 _ _ _ hU
  have h2 : ∀ t w, (binOp .mul t (.float .f64 4616189618054758400) (.float .f64 D)).run Yba.prog w = .ok (.float .f64 M) w := fun t w => run_float_arith w .mul t .f64 _ _ _ hM
  have h3 := fun w => run_max_ (P := Yba.prog) (floatOfInt .f64 f) M (Fp.ofInt_ok f) (Fp.mul_ok hM) #[23, 23] 23 w
  have hmf : ∀ (fn : Fn) (first cap : Array Value) (w : World), (Instr.makeFunc fn first cap).run Yba.prog w = .ok (.func fn first cap) w := fun _ _ _ _ => rfl
  have hnot : ∀ (x : Bool) (w : World), (Op.unary .not (.bool x)).run Yba.prog w = .ok (.bool (!x)) w := fun _ _ => rfl
  have e8 := res8 s u
  have e1 := res1 s u
  have V : Hid (floatBits .mul .f64 rse rse = some A ∧ floatBits .quo .f64 pv A = some B ∧ floatBits .quo .f64 B rch = some C ∧ floatBits .quo .f64 C PU = some D) := ⟨hA, hB, hC, hD⟩
  clear hU hA hB hC hD hM
  go_enter Yba.func10, Yba.ntmps10
  go_wp2_with fail
  refine (asks2_walk _ _ _ _ pv rse rch PU mod A B C D V.out.1 V.out.2.1 V.out.2.2.1 V.out.2.2.2 _ ?_ ?_ ?_ ?_).mono ?_
  · go_simp
  · go_simp
  · go_simp
  · go_simp
  rintro e w1 ⟨rfl, rfl⟩
  go_wp2_with (go_at_call 22; refine (inf_walk _).mono ?_; rintro e w1 ⟨rfl, rfl⟩)
  go_ret
  exact ⟨rfl, ((((((Fl.Kept.refl _ _).alloc _ _).alloc _ _).alloc _ _).alloc _ _).alloc _ _).alloc _ _⟩
set_option maxHeartbeats 400000 in
theorem wants_p6 (s u f : Int) (est se mod pv rch rse PU A B C : Nat) (w : World)
    (g1 : (FloatKind.f64.format.order est 0 == some .gt) = false) (g3 : (FloatKind.f64.format.order se 0 == some .gt) = false) (hU : floatBits .quo .f64 (floatOfInt .f64 s) (floatOfInt .f64 u) = some PU) (hA : floatBits .mul .f64 rse rse = some A) (hB : floatBits .quo .f64 pv A = some B) (hC : floatBits .quo .f64 B rch = some C) (hD : floatBits .quo .f64 C PU = none) :
    Calls Yba.prog 10 #[.agg (resCells s u), .agg #[.float .f64 est, .float .f64 se, .float .f64 mod, .float .f64 pv, .bool true], .float .f64 rch, .float .f64 rse, .int .i64 f] w fun e w' => e = .returned (.float .f64 0) ∧ Fl.Kept w.heap.size w w' := by
  have h0 : ∀ t w, (binOp .quo t (.float .f64 (floatOfInt .f64 s)) (.float .f64 (floatOfInt .f64 u))).run Yba.prog w = .ok (.float .f64 PU) w := fun t w => run_float_arith w .quo t .f64 _ _ _ hU
  have hmf : ∀ (fn : Fn) (first cap : Array Value) (w : World), (Instr.makeFunc fn first cap).run Yba.prog w = .ok (.func fn first cap) w := fun _ _ _ _ => rfl
  have hnot : ∀ (x : Bool) (w : World), (Op.unary .not (.bool x)).run Yba.prog w = .ok (.bool (!x)) w := fun _ _ => rfl
  have e8 := res8 s u
  have e1 := res1 s u
  have V : Hid (floatBits .mul .f64 rse rse = some A ∧ floatBits .quo .f64 pv A = some B ∧ floatBits .quo .f64 B rch = some C ∧ floatBits .quo .f64 C PU = none) := ⟨hA, hB, hC, hD⟩
  clear hU hA hB hC hD
  go_enter Yba.func10, Yba.ntmps10
  go_wp2_with fail
  refine (asks2_nan _ _ _ _ pv rse rch PU mod A B C V.out.1 V.out.2.1 V.out.2.2.1 V.out.2.2.2 _ ?_ ?_ ?_ ?_).mono ?_
  · go_simp
  · go_simp
  · go_simp
  · go_simp
  rintro e w1 ⟨⟨n, rfl, hn⟩, rfl⟩
  have h2 : ∀ t w, (binOp .mul t (.float .f64 4616189618054758400) (.float .f64 n)).run Yba.prog w = .ok (.float .f64 (nanOf (.nanBits .f64 4616189618054758400 n) w)) w.drew := fun t w => run_mul_none w t _ _ (Fp.mul_nan hn)
  have h3 := fun (x y : Nat) (w0 w : World) => run_max_nan (P := Yba.prog) (floatOfInt .f64 f) (nanOf (.nanBits .f64 x y) w0) (nanOf_bits x y w0) #[23, 23] 23 w
  have h5 := fun (x y z : Nat) (w0 : World) => Fp.order_nan_left (y := z) (nanOf_max x y w0)
  go_wp2_with (go_at_call 22; refine (inf_walk _).mono ?_; rintro e w1 ⟨rfl, rfl⟩)
  go_ret
  exact ⟨rfl, (((((((Fl.Kept.refl _ _).alloc _ _).alloc _ _).alloc _ _).alloc _ _).alloc _ _).alloc _ _).drew.drew.drew⟩
end Go.Proofs.Ybulkauhy.Tb
