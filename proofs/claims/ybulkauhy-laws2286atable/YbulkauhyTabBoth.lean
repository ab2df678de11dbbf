/-
  'wants' and 'zzs2286aref' give the same bits, which are no NaN: the ways through both, one by one.
-/
import Derived.Test.YbulkauhyTabRef
import Derived.Test.YbulkauhyTabSums
namespace Go.Proofs.Ybulkauhy.Tb
open Go.RowKit

/-- Both functions return the bits v, in whatever world. -/
def Same (s u : Nat) (f : Int) (est se mod pv rch rse : Nat) (md : Bool) (v : Nat) : Prop :=
  (∀ w : World, Calls Yba.prog 10 #[.agg (resCells s u), .agg #[.float .f64 est, .float .f64 se, .float .f64 mod, .float .f64 pv, .bool md], .float .f64 rch, .float .f64 rse, .int .i64 f] w fun e w' => e = .returned (.float .f64 v) ∧ Fl.Kept w.heap.size w w') ∧
  (∀ w : World, Calls Yba.prog 11 #[.float .f64 (floatOfInt .f64 u), .float .f64 (floatOfInt .f64 s), .float .f64 est, .float .f64 se, .float .f64 mod, .float .f64 pv, .float .f64 rse, .float .f64 rch, .float .f64 (floatOfInt .f64 f), .bool md] w fun e w' => e = .returned (.float .f64 v) ∧ Fl.Kept w.heap.size w w')

theorem ok_zero : Fp.ok 0 := by unfold Fp.ok; decide +kernel

/-- A positive estimate, a spread above 0, not resolved. -/
theorem same_pos {s u e g m p j rch : Nat} {f : Int} {md : Bool} {A : Nat} (hu : 1 ≤ u) (hu2 : u < 51) (he : 1 ≤ e) (he2 : e < 8) (hg : 1 ≤ g) (hg2 : g < 8) (hm : m < 8) (hj : j < 4)
    (hA : floatBits .mul .f64 (rseBits j) (fl e) = some A) (g2 : (FloatKind.f64.format.order (fl g) A == some .lt || FloatKind.f64.format.order (fl g) A == some .eq) = false) :
    ∃ v, Fp.ok v ∧ Same s u f (fl e) (fl g) (fl m) (fl p) rch (rseBits j) md v := by
  have g1 : (FloatKind.f64.format.order (fl e) 0 == some .gt) = true := by rw [gt_fl he2]; simp; omega
  have g3 : (FloatKind.f64.format.order (fl g) 0 == some .gt) = true := by rw [gt_fl hg2]; simp; omega
  obtain ⟨A1, Q, S, T, hA1, hQ, hS, hT⟩ := asks_pos (ran := fl u) (Fp.ofInt_ok _) hg hg2 hj he he2
  obtain rfl : A = A1 := Option.some.inj (hA.symm.trans hA1)
  cases md with
  | false =>
    exact ⟨_, Fp.ceil_ok (Fp.mul_ok hT), fun w => wants_p2 _ _ _ _ _ _ _ _ _ A Q S T w g1 hA g2 g3 hQ hS hT, fun w => ref_p2 _ _ _ _ _ _ _ _ _ A Q S T w g1 hA g2 g3 hQ hS hT⟩
  | true =>
    obtain ⟨A', Q', S', T', hA', hQ', hS', hT'⟩ := asks_any hu hu2 hg hg2 hj hm
    obtain ⟨M, hM⟩ := Fp.nz_mul four_nz (Fp.mul_ok hT')
    have hF := Fp.ofInt_ok f
    cases g4 : (FloatKind.f64.format.order (maxBits (floatOfInt .f64 f) M) 9218868437227405312 == some .lt) with
    | false =>
      exact ⟨0, ok_zero, fun w => wants_p4at _ _ _ _ _ _ _ _ _ A A' Q' S' T' M w g1 hA g2 g3 hA' hQ' hS' hT' hM g4, fun w => ref_p4at _ _ _ _ _ _ _ _ _ A A' Q' S' T' M w g1 hA g2 g3 hA' hQ' hS' hT' hM hF g4⟩
    | true =>
      exact ⟨_, minBits_ok (Fp.ceil_ok (Fp.mul_ok hT)) (maxBits_ok hF (Fp.mul_ok hM)), fun w => wants_p4b _ _ _ _ _ _ _ _ _ A Q S T A' Q' S' T' M w g1 hA g2 g3 hA' hQ' hS' hT' hM g4 hQ hS hT, fun w => ref_p4b _ _ _ _ _ _ _ _ _ A Q S T A' Q' S' T' M w g1 hA g2 g3 hA' hQ' hS' hT' hM hF g4 hQ hS hT⟩
/-- An estimate of 0. -/
theorem same_zero {s u g m p j rch : Nat} {f : Int} {md : Bool} (hu : 1 ≤ u) (hu2 : u < 51) (hs : s < 51) (hg2 : g < 8) (hm : m < 8) (hp : p < 8) (hj : j < 4) (hr : Fp.nz rch) :
    ∃ v, Fp.ok v ∧ Same s u f (fl 0) (fl g) (fl m) (fl p) rch (rseBits j) md v := by
  have g1 : (FloatKind.f64.format.order (fl 0) 0 == some .gt) = false := by rw [gt_fl (by omega)]; rfl
  cases md with
  | false => exact ⟨0, ok_zero, fun w => wants_p3 _ _ _ _ _ _ _ _ _ w g1, fun w => ref_p3 _ _ _ _ _ _ _ _ _ w g1⟩
  | true =>
    have hF := Fp.ofInt_ok f
    by_cases hg : g = 0
    · subst hg
      have g3 : (FloatKind.f64.format.order (fl 0) 0 == some .gt) = false := g1
      obtain ⟨PU, hU⟩ := Fp.quo_nz (Fp.ofInt_fin (s : Int) (by omega) (by omega)) (Fp.ofInt_nz (u : Int) (by omega) (by omega))
      obtain ⟨A, B, C, hA, hB, hC⟩ := spread hr hp hj
      cases hD : floatBits .quo .f64 C PU with
      | none => exact ⟨0, ok_zero, fun w => wants_p6 _ _ _ _ _ _ _ _ _ PU A B C w g1 g3 hU hA hB hC hD, fun w => ref_p6 _ _ _ _ _ _ _ _ _ PU A B C w g1 g3 hU hA hB hC hD⟩
      | some D =>
        obtain ⟨M, hM⟩ := Fp.nz_mul four_nz (Fp.quo_ok hD)
        cases g4 : (FloatKind.f64.format.order (maxBits (floatOfInt .f64 f) M) 9218868437227405312 == some .lt) with
        | false => exact ⟨0, ok_zero, fun w => wants_p5a _ _ _ _ _ _ _ _ _ PU A B C D M w g1 g3 hU hA hB hC hD hM g4, fun w => ref_p5a _ _ _ _ _ _ _ _ _ PU A B C D M w g1 g3 hU hA hB hC hD hM hF g4⟩
        | true => exact ⟨_, maxBits_ok hF (Fp.mul_ok hM), fun w => wants_p5c _ _ _ _ _ _ _ _ _ PU A B C D M w g1 g3 hU hA hB hC hD hM g4, fun w => ref_p5c _ _ _ _ _ _ _ _ _ PU A B C D M w g1 g3 hU hA hB hC hD hM hF g4⟩
    · have g3 : (FloatKind.f64.format.order (fl g) 0 == some .gt) = true := by rw [gt_fl hg2]; simpa using hg
      obtain ⟨A', Q', S', T', hA', hQ', hS', hT'⟩ := asks_any hu hu2 (show 1 ≤ g by omega) hg2 hj hm
      obtain ⟨M, hM⟩ := Fp.nz_mul four_nz (Fp.mul_ok hT')
      cases g4 : (FloatKind.f64.format.order (maxBits (floatOfInt .f64 f) M) 9218868437227405312 == some .lt) with
      | false => exact ⟨0, ok_zero, fun w => wants_p4af _ _ _ _ _ _ _ _ _ A' Q' S' T' M w g1 g3 hA' hQ' hS' hT' hM g4, fun w => ref_p4af _ _ _ _ _ _ _ _ _ A' Q' S' T' M w g1 g3 hA' hQ' hS' hT' hM hF g4⟩
      | true => exact ⟨_, maxBits_ok hF (Fp.mul_ok hM), fun w => wants_p4c _ _ _ _ _ _ _ _ _ A' Q' S' T' M w g1 g3 hA' hQ' hS' hT' hM g4, fun w => ref_p4c _ _ _ _ _ _ _ _ _ A' Q' S' T' M w g1 g3 hA' hQ' hS' hT' hM hF g4⟩
/-- Whatever the small figures. -/
theorem same {s u e g m p j rch : Nat} {f : Int} {md : Bool} (hu : 1 ≤ u) (hu2 : u < 51) (hs : s < 51) (he2 : e < 8) (hg2 : g < 8) (hm : m < 8) (hp : p < 8) (hj : j < 4) (hr : Fp.nz rch) :
    ∃ v, Fp.ok v ∧ Same s u f (fl e) (fl g) (fl m) (fl p) rch (rseBits j) md v := by
  by_cases he : e = 0
  · subst he; exact same_zero hu hu2 hs hg2 hm hp hj hr
  · have g1 : (FloatKind.f64.format.order (fl e) 0 == some .gt) = true := by rw [gt_fl he2]; simpa using he
    obtain ⟨A, hA, hle⟩ := le_of (le_one hj he2)
    cases g2 : (FloatKind.f64.format.order (fl g) A == some .lt || FloatKind.f64.format.order (fl g) A == some .eq) with
    | true => exact ⟨0, ok_zero, fun w => wants_p1 _ _ _ _ _ _ _ _ _ A w g1 hA g2 md, fun w => ref_p1 _ _ _ _ _ _ _ _ _ A w g1 hA g2 md⟩
    | false =>
      have hg : g ≠ 0 := by
        rintro rfl
        rw [hle] at g2; cases g2
      exact same_pos hu hu2 (by omega) he2 (by omega) hg2 hm hj hA g2
end Go.Proofs.Ybulkauhy.Tb
