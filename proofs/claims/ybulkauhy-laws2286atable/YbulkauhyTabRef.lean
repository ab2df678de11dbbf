/-
  'creditsim.zzs2286aref' walked, a way a theorem.
-/
import Derived.Test.YbulkauhyTabWants
namespace Go.Proofs.Ybulkauhy.Tb
open Go.ChangeShapes Go.WideShapes Go.ChangeAt Go.RowKit
attribute [local go_sem] run_store_float
set_option maxHeartbeats 400000 in
theorem ref_p1 (ran ses est se mod pv rse rch fst A : Nat) (w : World)
    (g1 : (FloatKind.f64.format.order est 0 == some .gt) = true) (hA : floatBits .mul .f64 rse est = some A) (g2 : (FloatKind.f64.format.order se A == some .lt || FloatKind.f64.format.order se A == some .eq) = true) (md : Bool) :
    Calls Yba.prog 11 #[.float .f64 ran, .float .f64 ses, .float .f64 est, .float .f64 se, .float .f64 mod, .float .f64 pv, .float .f64 rse, .float .f64 rch, .float .f64 fst, .bool md] w fun e w' => e = .returned (.float .f64 0) ∧ Fl.Kept w.heap.size w w' := by
  have h1 : ∀ t w, (binOp .mul t (.float .f64 rse) (.float .f64 est)).run Yba.prog w = .ok (.float .f64 A) w := fun t w => run_float_arith w .mul t .f64 _ _ _ hA
  clear hA
  go_enter Yba.func11, Yba.ntmps11
  go_wp2_with fail
  go_ret
  exact ⟨rfl, Fl.Kept.refl _ _⟩
set_option maxHeartbeats 400000 in
theorem ref_p2 (ran ses est se mod pv rse rch fst A Q S T : Nat) (w : World)
    (g1 : (FloatKind.f64.format.order est 0 == some .gt) = true) (hA : floatBits .mul .f64 rse est = some A) (g2 : (FloatKind.f64.format.order se A == some .lt || FloatKind.f64.format.order se A == some .eq) = false) (g3 : (FloatKind.f64.format.order se 0 == some .gt) = true) (hQ : floatBits .quo .f64 se A = some Q) (hS : floatBits .mul .f64 ran Q = some S) (hT : floatBits .mul .f64 S Q = some T) :
    Calls Yba.prog 11 #[.float .f64 ran, .float .f64 ses, .float .f64 est, .float .f64 se, .float .f64 mod, .float .f64 pv, .float .f64 rse, .float .f64 rch, .float .f64 fst, .bool false] w fun e w' => e = .returned (.float .f64 (Fp.ceilBits T)) ∧ Fl.Kept w.heap.size w w' := by
  have h1 : ∀ t w, (binOp .mul t (.float .f64 rse) (.float .f64 est)).run Yba.prog w = .ok (.float .f64 A) w := fun t w => run_float_arith w .mul t .f64 _ _ _ hA
  have hnot : ∀ (x : Bool) (w : World), (Op.unary .not (.bool x)).run Yba.prog w = .ok (.bool (!x)) w := fun _ _ => rfl
  have V2 : Hid (floatBits .mul .f64 rse est = some A ∧ floatBits .quo .f64 se A = some Q ∧ floatBits .mul .f64 ran Q = some S ∧ floatBits .mul .f64 S Q = some T) := ⟨hA, hQ, hS, hT⟩
  clear hA hQ hS hT
  go_enter Yba.func11, Yba.ntmps11
  go_wp2_with fail
  refine (units_walk ran se rse est A Q S T V2.out.1 V2.out.2.1 V2.out.2.2.1 V2.out.2.2.2 _).mono ?_
  rintro e w1 ⟨rfl, rfl⟩
  go_wp2_with (go_at_call 20; refine (ceil_walk T (Fp.mul_ok V2.out.2.2.2) _).mono ?_; rintro e w1 ⟨rfl, rfl⟩)
  go_ret
  exact ⟨rfl, Fl.Kept.refl _ _⟩
set_option maxHeartbeats 400000 in
theorem ref_p3 (ran ses est se mod pv rse rch fst : Nat) (w : World)
    (g1 : (FloatKind.f64.format.order est 0 == some .gt) = false) :
    Calls Yba.prog 11 #[.float .f64 ran, .float .f64 ses, .float .f64 est, .float .f64 se, .float .f64 mod, .float .f64 pv, .float .f64 rse, .float .f64 rch, .float .f64 fst, .bool false] w fun e w' => e = .returned (.float .f64 0) ∧ Fl.Kept w.heap.size w w' := by
  have hnot : ∀ (x : Bool) (w : World), (Op.unary .not (.bool x)).run Yba.prog w = .ok (.bool (!x)) w := fun _ _ => rfl
  go_enter Yba.func11, Yba.ntmps11
  go_wp2_with fail
  go_ret
  exact ⟨rfl, Fl.Kept.refl _ _⟩
set_option maxHeartbeats 400000 in
theorem ref_p4at (ran ses est se mod pv rse rch fst A A' Q' S' T' M : Nat) (w : World)
    (g1 : (FloatKind.f64.format.order est 0 == some .gt) = true) (hA : floatBits .mul .f64 rse est = some A) (g2 : (FloatKind.f64.format.order se A == some .lt || FloatKind.f64.format.order se A == some .eq) = false) (g3 : (FloatKind.f64.format.order se 0 == some .gt) = true) (hA' : floatBits .mul .f64 rse mod = some A') (hQ' : floatBits .quo .f64 se A' = some Q') (hS' : floatBits .mul .f64 ran Q' = some S') (hT' : floatBits .mul .f64 S' Q' = some T') (hM : floatBits .mul .f64 4616189618054758400 T' = some M) (hF : Fp.ok fst) (g4 : (FloatKind.f64.format.order (maxBits fst M) 9218868437227405312 == some .lt) = false) :
    Calls Yba.prog 11 #[.float .f64 ran, .float .f64 ses, .float .f64 est, .float .f64 se, .float .f64 mod, .float .f64 pv, .float .f64 rse, .float .f64 rch, .float .f64 fst, .bool true] w fun e w' => e = .returned (.float .f64 0) ∧ Fl.Kept w.heap.size w w' := by
  have h1 : ∀ t w, (binOp .mul t (.float .f64 rse) (.float .f64 est)).run Yba.prog w = .ok (.float .f64 A) w := fun t w => run_float_arith w .mul t .f64 _ _ _ hA
  have h2 : ∀ t w, (binOp .mul t (.float .f64 4616189618054758400) (.float .f64 T')).run Yba.prog w = .ok (.float .f64 M) w := fun t w => run_float_arith w .mul t .f64 _ _ _ hM
  have h3 := fun w => run_max_ (P := Yba.prog) fst M hF (Fp.mul_ok hM) #[23, 23] 23 w
  have h5 := Fp.order_self (maxBits_ok hF (Fp.mul_ok hM))
  have h6 : (FloatKind.f64.format.order (maxBits fst M) 9218868437227405311 == some .gt) = true := by rw [Fp.inf_max (maxBits_ok hF (Fp.mul_ok hM)), g4]; rfl
  have hnot : ∀ (x : Bool) (w : World), (Op.unary .not (.bool x)).run Yba.prog w = .ok (.bool (!x)) w := fun _ _ => rfl
  have V : Hid (floatBits .mul .f64 rse mod = some A' ∧ floatBits .quo .f64 se A' = some Q' ∧ floatBits .mul .f64 ran Q' = some S' ∧ floatBits .mul .f64 S' Q' = some T') := ⟨hA', hQ', hS', hT'⟩
  clear hA hA' hQ' hS' hT' hM hF
  go_enter Yba.func11, Yba.ntmps11
  go_wp2_with fail
  refine (units_walk ran se rse mod A' Q' S' T' V.out.1 V.out.2.1 V.out.2.2.1 V.out.2.2.2 _).mono ?_
  rintro e w1 ⟨rfl, rfl⟩
  go_wp2_with (first | (go_at_call 24; refine (isNaN_walk _ _).mono ?_; rintro e w1 ⟨rfl, rfl⟩) | (go_at_call 25; refine (isInf_walk _ _).mono ?_; rintro e w1 ⟨rfl, rfl⟩))
  go_ret
  exact ⟨rfl, Fl.Kept.refl _ _⟩
set_option maxHeartbeats 400000 in
theorem ref_p4af (ran ses est se mod pv rse rch fst A' Q' S' T' M : Nat) (w : World)
    (g1 : (FloatKind.f64.format.order est 0 == some .gt) = false) (g3 : (FloatKind.f64.format.order se 0 == some .gt) = true) (hA' : floatBits .mul .f64 rse mod = some A') (hQ' : floatBits .quo .f64 se A' = some Q') (hS' : floatBits .mul .f64 ran Q' = some S') (hT' : floatBits .mul .f64 S' Q' = some T') (hM : floatBits .mul .f64 4616189618054758400 T' = some M) (hF : Fp.ok fst) (g4 : (FloatKind.f64.format.order (maxBits fst M) 9218868437227405312 == some .lt) = false) :
    Calls Yba.prog 11 #[.float .f64 ran, .float .f64 ses, .float .f64 est, .float .f64 se, .float .f64 mod, .float .f64 pv, .float .f64 rse, .float .f64 rch, .float .f64 fst, .bool true] w fun e w' => e = .returned (.float .f64 0) ∧ Fl.Kept w.heap.size w w' := by
  have h2 : ∀ t w, (binOp .mul t (.float .f64 4616189618054758400) (.float .f64 T')).run Yba.prog w = .ok (.float .f64 M) w := fun t w => run_float_arith w .mul t .f64 _ _ _ hM
  have h3 := fun w => run_max_ (P := Yba.prog) fst M hF (Fp.mul_ok hM) #[23, 23] 23 w
  have h5 := Fp.order_self (maxBits_ok hF (Fp.mul_ok hM))
  have h6 : (FloatKind.f64.format.order (maxBits fst M) 9218868437227405311 == some .gt) = true := by rw [Fp.inf_max (maxBits_ok hF (Fp.mul_ok hM)), g4]; rfl
  have hnot : ∀ (x : Bool) (w : World), (Op.unary .not (.bool x)).run Yba.prog w = .ok (.bool (!x)) w := fun _ _ => rfl
  have V : Hid (floatBits .mul .f64 rse mod = some A' ∧ floatBits .quo .f64 se A' = some Q' ∧ floatBits .mul .f64 ran Q' = some S' ∧ floatBits .mul .f64 S' Q' = some T') := ⟨hA', hQ', hS', hT'⟩
  clear hA' hQ' hS' hT' hM hF
  go_enter Yba.func11, Yba.ntmps11
  go_wp2_with fail
  refine (units_walk ran se rse mod A' Q' S' T' V.out.1 V.out.2.1 V.out.2.2.1 V.out.2.2.2 _).mono ?_
  rintro e w1 ⟨rfl, rfl⟩
  go_wp2_with (first | (go_at_call 24; refine (isNaN_walk _ _).mono ?_; rintro e w1 ⟨rfl, rfl⟩) | (go_at_call 25; refine (isInf_walk _ _).mono ?_; rintro e w1 ⟨rfl, rfl⟩))
  go_ret
  exact ⟨rfl, Fl.Kept.refl _ _⟩
set_option maxHeartbeats 400000 in
theorem ref_p4b (ran ses est se mod pv rse rch fst A Q S T A' Q' S' T' M : Nat) (w : World)
    (g1 : (FloatKind.f64.format.order est 0 == some .gt) = true) (hA : floatBits .mul .f64 rse est = some A) (g2 : (FloatKind.f64.format.order se A == some .lt || FloatKind.f64.format.order se A == some .eq) = false) (g3 : (FloatKind.f64.format.order se 0 == some .gt) = true) (hA' : floatBits .mul .f64 rse mod = some A') (hQ' : floatBits .quo .f64 se A' = some Q') (hS' : floatBits .mul .f64 ran Q' = some S') (hT' : floatBits .mul .f64 S' Q' = some T') (hM : floatBits .mul .f64 4616189618054758400 T' = some M) (hF : Fp.ok fst) (g4 : (FloatKind.f64.format.order (maxBits fst M) 9218868437227405312 == some .lt) = true) (hQ : floatBits .quo .f64 se A = some Q) (hS : floatBits .mul .f64 ran Q = some S) (hT : floatBits .mul .f64 S Q = some T) :
    Calls Yba.prog 11 #[.float .f64 ran, .float .f64 ses, .float .f64 est, .float .f64 se, .float .f64 mod, .float .f64 pv, .float .f64 rse, .float .f64 rch, .float .f64 fst, .bool true] w fun e w' => e = .returned (.float .f64 (minBits (Fp.ceilBits T) (maxBits fst M))) ∧ Fl.Kept w.heap.size w w' := by
  have h1 : ∀ t w, (binOp .mul t (.float .f64 rse) (.float .f64 est)).run Yba.prog w = .ok (.float .f64 A) w := fun t w => run_float_arith w .mul t .f64 _ _ _ hA
  have h2 : ∀ t w, (binOp .mul t (.float .f64 4616189618054758400) (.float .f64 T')).run Yba.prog w = .ok (.float .f64 M) w := fun t w => run_float_arith w .mul t .f64 _ _ _ hM
  have h3 := fun w => run_max_ (P := Yba.prog) fst M hF (Fp.mul_ok hM) #[23, 23] 23 w
  have h5 := Fp.order_self (maxBits_ok hF (Fp.mul_ok hM))
  have h6 : (FloatKind.f64.format.order (maxBits fst M) 9218868437227405311 == some .gt) = false := by rw [Fp.inf_max (maxBits_ok hF (Fp.mul_ok hM)), g4]; rfl
  have h4 := fun w => run_min_ (P := Yba.prog) (Fp.ceilBits T) (maxBits fst M) (Fp.ceil_ok (Fp.mul_ok hT)) (maxBits_ok hF (Fp.mul_ok hM)) #[23, 23] 23 w
  have hnot : ∀ (x : Bool) (w : World), (Op.unary .not (.bool x)).run Yba.prog w = .ok (.bool (!x)) w := fun _ _ => rfl
  have V : Hid (floatBits .mul .f64 rse mod = some A' ∧ floatBits .quo .f64 se A' = some Q' ∧ floatBits .mul .f64 ran Q' = some S' ∧ floatBits .mul .f64 S' Q' = some T') := ⟨hA', hQ', hS', hT'⟩
  have V2 : Hid (floatBits .mul .f64 rse est = some A ∧ floatBits .quo .f64 se A = some Q ∧ floatBits .mul .f64 ran Q = some S ∧ floatBits .mul .f64 S Q = some T) := ⟨hA, hQ, hS, hT⟩
  clear hA hQ hS hT hA' hQ' hS' hT' hM hF
  go_enter Yba.func11, Yba.ntmps11
  go_wp2_with fail
  refine (units_walk ran se rse mod A' Q' S' T' V.out.1 V.out.2.1 V.out.2.2.1 V.out.2.2.2 _).mono ?_
  rintro e w1 ⟨rfl, rfl⟩
  go_wp2_with (first | (go_at_call 24; refine (isNaN_walk _ _).mono ?_; rintro e w1 ⟨rfl, rfl⟩) | (go_at_call 25; refine (isInf_walk _ _).mono ?_; rintro e w1 ⟨rfl, rfl⟩))
  refine (units_walk ran se rse est A Q S T V2.out.1 V2.out.2.1 V2.out.2.2.1 V2.out.2.2.2 _).mono ?_
  rintro e w1 ⟨rfl, rfl⟩
  go_wp2_with (go_at_call 20; refine (ceil_walk T (Fp.mul_ok V2.out.2.2.2) _).mono ?_; rintro e w1 ⟨rfl, rfl⟩)
  go_ret
  exact ⟨rfl, Fl.Kept.refl _ _⟩
set_option maxHeartbeats 400000 in
theorem ref_p4c (ran ses est se mod pv rse rch fst A' Q' S' T' M : Nat) (w : World)
    (g1 : (FloatKind.f64.format.order est 0 == some .gt) = false) (g3 : (FloatKind.f64.format.order se 0 == some .gt) = true) (hA' : floatBits .mul .f64 rse mod = some A') (hQ' : floatBits .quo .f64 se A' = some Q') (hS' : floatBits .mul .f64 ran Q' = some S') (hT' : floatBits .mul .f64 S' Q' = some T') (hM : floatBits .mul .f64 4616189618054758400 T' = some M) (hF : Fp.ok fst) (g4 : (FloatKind.f64.format.order (maxBits fst M) 9218868437227405312 == some .lt) = true) :
    Calls Yba.prog 11 #[.float .f64 ran, .float .f64 ses, .float .f64 est, .float .f64 se, .float .f64 mod, .float .f64 pv, .float .f64 rse, .float .f64 rch, .float .f64 fst, .bool true] w fun e w' => e = .returned (.float .f64 (maxBits fst M)) ∧ Fl.Kept w.heap.size w w' := by
  have h2 : ∀ t w, (binOp .mul t (.float .f64 4616189618054758400) (.float .f64 T')).run Yba.prog w = .ok (.float .f64 M) w := fun t w => run_float_arith w .mul t .f64 _ _ _ hM
  have h3 := fun w => run_max_ (P := Yba.prog) fst M hF (Fp.mul_ok hM) #[23, 23] 23 w
  have h5 := Fp.order_self (maxBits_ok hF (Fp.mul_ok hM))
  have h6 : (FloatKind.f64.format.order (maxBits fst M) 9218868437227405311 == some .gt) = false := by rw [Fp.inf_max (maxBits_ok hF (Fp.mul_ok hM)), g4]; rfl
  have hnot : ∀ (x : Bool) (w : World), (Op.unary .not (.bool x)).run Yba.prog w = .ok (.bool (!x)) w := fun _ _ => rfl
  have V : Hid (floatBits .mul .f64 rse mod = some A' ∧ floatBits .quo .f64 se A' = some Q' ∧ floatBits .mul .f64 ran Q' = some S' ∧ floatBits .mul .f64 S' Q' = some T') := ⟨hA', hQ', hS', hT'⟩
  clear hA' hQ' hS' hT' hM hF
  go_enter Yba.func11, Yba.ntmps11
  go_wp2_with fail
  refine (units_walk ran se rse mod A' Q' S' T' V.out.1 V.out.2.1 V.out.2.2.1 V.out.2.2.2 _).mono ?_
  rintro e w1 ⟨rfl, rfl⟩
  go_wp2_with (first | (go_at_call 24; refine (isNaN_walk _ _).mono ?_; rintro e w1 ⟨rfl, rfl⟩) | (go_at_call 25; refine (isInf_walk _ _).mono ?_; rintro e w1 ⟨rfl, rfl⟩))
  go_ret
  exact ⟨rfl, Fl.Kept.refl _ _⟩
set_option maxHeartbeats 400000 in
theorem ref_p5a (ran ses est se mod pv rse rch fst PU A B C D M : Nat) (w : World)
    (g1 : (FloatKind.f64.format.order est 0 == some .gt) = false) (g3 : (FloatKind.f64.format.order se 0 == some .gt) = false) (hU : floatBits .quo .f64 ses ran = some PU) (hA : floatBits .mul .f64 rse rse = some A) (hB : floatBits .quo .f64 pv A = some B) (hC : floatBits .quo .f64 B rch = some C) (hD : floatBits .quo .f64 C PU = some D) (hM : floatBits .mul .f64 4616189618054758400 D = some M) (hF : Fp.ok fst) (g4 : (FloatKind.f64.format.order (maxBits fst M) 9218868437227405312 == some .lt) = false) :
    Calls Yba.prog 11 #[.float .f64 ran, .float .f64 ses, .float .f64 est, .float .f64 se, .float .f64 mod, .float .f64 pv, .float .f64 rse, .float .f64 rch, .float .f64 fst, .bool true] w fun e w' => e = .returned (.float .f64 0) ∧ Fl.Kept w.heap.size w w' := by
  have k0 : ∀ t w, (binOp .quo t (.float .f64 ses) (.float .f64 ran)).run Yba.prog w = .ok (.float .f64 PU) w := fun t w => run_float_arith w .quo t .f64 _ _ _ hU
  have k1 : ∀ t w, (binOp .mul t (.float .f64 rse) (.float .f64 rse)).run Yba.prog w = .ok (.float .f64 A) w := fun t w => run_float_arith w .mul t .f64 _ _ _ hA
  have k2 : ∀ t w, (binOp .quo t (.float .f64 pv) (.float .f64 A)).run Yba.prog w = .ok (.float .f64 B) w := fun t w => run_float_arith w .quo t .f64 _ _ _ hB
  have k3 : ∀ t w, (binOp .quo t (.float .f64 B) (.float .f64 rch)).run Yba.prog w = .ok (.float .f64 C) w := fun t w => run_float_arith w .quo t .f64 _ _ _ hC
  have k4 : ∀ t w, (binOp .quo t (.float .f64 C) (.float .f64 PU)).run Yba.prog w = .ok (.float .f64 D) w := fun t w => run_float_arith w .quo t .f64 _ _ _ hD
  have k5 : ∀ t w, (binOp .mul t (.float .f64 4616189618054758400) (.float .f64 D)).run Yba.prog w = .ok (.float .f64 M) w := fun t w => run_float_arith w .mul t .f64 _ _ _ hM
  have h3 := fun w => run_max_ (P := Yba.prog) fst M hF (Fp.mul_ok hM) #[23, 23] 23 w
  have h5 := Fp.order_self (maxBits_ok hF (Fp.mul_ok hM))
  have h6 : (FloatKind.f64.format.order (maxBits fst M) 9218868437227405311 == some .gt) = true := by rw [Fp.inf_max (maxBits_ok hF (Fp.mul_ok hM)), g4]; rfl
  have hnot : ∀ (x : Bool) (w : World), (Op.unary .not (.bool x)).run Yba.prog w = .ok (.bool (!x)) w := fun _ _ => rfl
  clear hU hA hB hC hD hM hF
  go_enter Yba.func11, Yba.ntmps11
  go_wp2_with (first | (go_at_call 24; refine (isNaN_walk _ _).mono ?_; rintro e w1 ⟨rfl, rfl⟩) | (go_at_call 25; refine (isInf_walk _ _).mono ?_; rintro e w1 ⟨rfl, rfl⟩))
  go_ret
  exact ⟨rfl, Fl.Kept.refl _ _⟩
set_option maxHeartbeats 400000 in
theorem ref_p5c (ran ses est se mod pv rse rch fst PU A B C D M : Nat) (w : World)
    (g1 : (FloatKind.f64.format.order est 0 == some .gt) = false) (g3 : (FloatKind.f64.format.order se 0 == some .gt) = false) (hU : floatBits .quo .f64 ses ran = some PU) (hA : floatBits .mul .f64 rse rse = some A) (hB : floatBits .quo .f64 pv A = some B) (hC : floatBits .quo .f64 B rch = some C) (hD : floatBits .quo .f64 C PU = some D) (hM : floatBits .mul .f64 4616189618054758400 D = some M) (hF : Fp.ok fst) (g4 : (FloatKind.f64.format.order (maxBits fst M) 9218868437227405312 == some .lt) = true) :
    Calls Yba.prog 11 #[.float .f64 ran, .float .f64 ses, .float .f64 est, .float .f64 se, .float .f64 mod, .float .f64 pv, .float .f64 rse, .float .f64 rch, .float .f64 fst, .bool true] w fun e w' => e = .returned (.float .f64 (maxBits fst M)) ∧ Fl.Kept w.heap.size w w' := by
  have k0 : ∀ t w, (binOp .quo t (.float .f64 ses) (.float .f64 ran)).run Yba.prog w = .ok (.float .f64 PU) w := fun t w => run_float_arith w .quo t .f64 _ _ _ hU
  have k1 : ∀ t w, (binOp .mul t (.float .f64 rse) (.float .f64 rse)).run Yba.prog w = .ok (.float .f64 A) w := fun t w => run_float_arith w .mul t .f64 _ _ _ hA
  have k2 : ∀ t w, (binOp .quo t (.float .f64 pv) (.float .f64 A)).run Yba.prog w = .ok (.float .f64 B) w := fun t w => run_float_arith w .quo t .f64 _ _ _ hB
  have k3 : ∀ t w, (binOp .quo t (.float .f64 B) (.float .f64 rch)).run Yba.prog w = .ok (.float .f64 C) w := fun t w => run_float_arith w .quo t .f64 _ _ _ hC
  have k4 : ∀ t w, (binOp .quo t (.float .f64 C) (.float .f64 PU)).run Yba.prog w = .ok (.float .f64 D) w := fun t w => run_float_arith w .quo t .f64 _ _ _ hD
  have k5 : ∀ t w, (binOp .mul t (.float .f64 4616189618054758400) (.float .f64 D)).run Yba.prog w = .ok (.float .f64 M) w := fun t w => run_float_arith w .mul t .f64 _ _ _ hM
  have h3 := fun w => run_max_ (P := Yba.prog) fst M hF (Fp.mul_ok hM) #[23, 23] 23 w
  have h5 := Fp.order_self (maxBits_ok hF (Fp.mul_ok hM))
  have h6 : (FloatKind.f64.format.order (maxBits fst M) 9218868437227405311 == some .gt) = false := by rw [Fp.inf_max (maxBits_ok hF (Fp.mul_ok hM)), g4]; rfl
  have hnot : ∀ (x : Bool) (w : World), (Op.unary .not (.bool x)).run Yba.prog w = .ok (.bool (!x)) w := fun _ _ => rfl
  clear hU hA hB hC hD hM hF
  go_enter Yba.func11, Yba.ntmps11
  go_wp2_with (first | (go_at_call 24; refine (isNaN_walk _ _).mono ?_; rintro e w1 ⟨rfl, rfl⟩) | (go_at_call 25; refine (isInf_walk _ _).mono ?_; rintro e w1 ⟨rfl, rfl⟩))
  go_ret
  exact ⟨rfl, Fl.Kept.refl _ _⟩
set_option maxHeartbeats 400000 in
theorem ref_p6 (ran ses est se mod pv rse rch fst PU A B C : Nat) (w : World)
    (g1 : (FloatKind.f64.format.order est 0 == some .gt) = false) (g3 : (FloatKind.f64.format.order se 0 == some .gt) = false) (hU : floatBits .quo .f64 ses ran = some PU) (hA : floatBits .mul .f64 rse rse = some A) (hB : floatBits .quo .f64 pv A = some B) (hC : floatBits .quo .f64 B rch = some C) (hD : floatBits .quo .f64 C PU = none) :
    Calls Yba.prog 11 #[.float .f64 ran, .float .f64 ses, .float .f64 est, .float .f64 se, .float .f64 mod, .float .f64 pv, .float .f64 rse, .float .f64 rch, .float .f64 fst, .bool true] w fun e w' => e = .returned (.float .f64 0) ∧ Fl.Kept w.heap.size w w' := by
  have k0 : ∀ t w, (binOp .quo t (.float .f64 ses) (.float .f64 ran)).run Yba.prog w = .ok (.float .f64 PU) w := fun t w => run_float_arith w .quo t .f64 _ _ _ hU
  have k1 : ∀ t w, (binOp .mul t (.float .f64 rse) (.float .f64 rse)).run Yba.prog w = .ok (.float .f64 A) w := fun t w => run_float_arith w .mul t .f64 _ _ _ hA
  have k2 : ∀ t w, (binOp .quo t (.float .f64 pv) (.float .f64 A)).run Yba.prog w = .ok (.float .f64 B) w := fun t w => run_float_arith w .quo t .f64 _ _ _ hB
  have k3 : ∀ t w, (binOp .quo t (.float .f64 B) (.float .f64 rch)).run Yba.prog w = .ok (.float .f64 C) w := fun t w => run_float_arith w .quo t .f64 _ _ _ hC
  have k4 : ∀ t w, (binOp .quo t (.float .f64 C) (.float .f64 PU)).run Yba.prog w = .ok (.float .f64 (nanOf (.nanBits .f64 C PU) w)) w.drew := fun t w => run_quo_none w t _ _ hD
  have k5 : ∀ (w0 : World) t w, (binOp .mul t (.float .f64 4616189618054758400) (.float .f64 (nanOf (.nanBits .f64 C PU) w0))).run Yba.prog w = .ok (.float .f64 (nanOf (.nanBits .f64 4616189618054758400 (nanOf (.nanBits .f64 C PU) w0)) w)) w.drew := fun w0 t w => run_mul_none w t _ _ (Fp.mul_nan (nanOf_bits _ _ _))
  have h3 := fun (x y : Nat) (w0 w : World) => run_max_nan (P := Yba.prog) fst (nanOf (.nanBits .f64 x y) w0) (nanOf_bits x y w0) #[23, 23] 23 w
  have h5 := fun (x y z : Nat) (w0 : World) => Fp.order_nan_left (y := z) (nanOf_max x y w0)
  have hnot : ∀ (x : Bool) (w : World), (Op.unary .not (.bool x)).run Yba.prog w = .ok (.bool (!x)) w := fun _ _ => rfl
  clear hU hA hB hC hD
  go_enter Yba.func11, Yba.ntmps11
  go_wp2_with (first | (go_at_call 24; refine (isNaN_walk _ _).mono ?_; rintro e w1 ⟨rfl, rfl⟩) | (go_at_call 25; refine (isInf_walk _ _).mono ?_; rintro e w1 ⟨rfl, rfl⟩))
  go_ret
  exact ⟨rfl, (Fl.Kept.refl _ _).drew.drew.drew⟩
end Go.Proofs.Ybulkauhy.Tb
