/-
  The small figures of 'creditsim.LawS2286ATable', reckoned by the kernel, one by one. No Go in sight.
-/
import Derived.Test.YbulkauhyFloatPlain
namespace Go.Proofs.Ybulkauhy.Tb

/-- 1, 1/2, 1/4, 1/8. -/
def rseBits (j : Nat) : Nat := (4607182418800017408 - j * 4503599627370496)
/-- The bits of 'float64(x)'. -/
def fl (x : Nat) : Nat := floatOfInt .f64 (x : Int)
def nzB (x : Nat) : Bool := match Ieee.double.read x with | .number _ m _ => m != 0 | _ => false
def finB (x : Nat) : Bool := match Ieee.double.read x with | .number .. => true | _ => false

/-- Two operations behind one another come to something that passes a test. -/
def twoB (o : Option Nat) (k : Nat → Option Nat) (p : Nat → Bool) : Bool := match o with
  | some a => (match k a with | some q => p q | none => false)
  | none => false
theorem two_of {o : Option Nat} {k : Nat → Option Nat} {p : Nat → Bool} (h : twoB o k p = true) : ∃ A Q, o = some A ∧ k A = some Q ∧ p Q = true := by
  cases o with
  | none => cases h
  | some A =>
    cases hk : k A with
    | none => simp [twoB, hk] at h
    | some Q => exact ⟨A, Q, rfl, hk, by simpa [twoB, hk] using h⟩
theorem all_lt {n : Nat} {p : Nat → Bool} (h : (List.range n).all p = true) {x : Nat} (hx : x < n) : p x = true :=
  List.all_eq_true.1 h x (List.mem_range.2 hx)

/-- The quotient in 'asks', where it comes to a finite number that is not 0. -/
def qB (g j x : Nat) : Bool := twoB (floatBits .mul .f64 (rseBits j) (fl x)) (fun a => floatBits .quo .f64 (fl g) a) nzB
theorem q_all : (List.range 8).all (fun g => (List.range 4).all fun j => (List.range 8).all fun x => g == 0 || x == 0 || qB g j x) = true := by decide +kernel
theorem q_one {g j x : Nat} (hg : 1 ≤ g) (hg2 : g < 8) (hj : j < 4) (hx : 1 ≤ x) (hx2 : x < 8) : qB g j x = true := by
  have h := all_lt (all_lt (all_lt q_all hg2) hj) hx2
  have h1 : (g == 0) = false := by simp; omega
  have h2 : (x == 0) = false := by simp; omega
  simp only [h1, h2, Bool.false_or] at h
  exact h
theorem q_pos {g j x : Nat} (hg : 1 ≤ g) (hg2 : g < 8) (hj : j < 4) (hx : 1 ≤ x) (hx2 : x < 8) :
    ∃ A Q, floatBits .mul .f64 (rseBits j) (fl x) = some A ∧ floatBits .quo .f64 (fl g) A = some Q ∧ nzB Q = true := two_of (q_one hg hg2 hj hx hx2)

/-- At a figure of 0: +Inf. -/
def zB (g j : Nat) : Bool := twoB (floatBits .mul .f64 (rseBits j) (fl 0)) (fun a => floatBits .quo .f64 (fl g) a) (fun q => q == 9218868437227405312)
theorem z_all : (List.range 8).all (fun g => (List.range 4).all fun j => g == 0 || zB g j) = true := by decide +kernel
theorem z_one {g j : Nat} (hg : 1 ≤ g) (hg2 : g < 8) (hj : j < 4) : zB g j = true := by
  have h := all_lt (all_lt z_all hg2) hj
  have h1 : (g == 0) = false := by simp; omega
  simp only [h1, Bool.false_or] at h
  exact h
theorem z_pos {g j : Nat} (hg : 1 ≤ g) (hg2 : g < 8) (hj : j < 4) :
    ∃ A, floatBits .mul .f64 (rseBits j) (fl 0) = some A ∧ floatBits .quo .f64 (fl g) A = some 9218868437227405312 := by
  obtain ⟨A, Q, h1, h2, h3⟩ := two_of (z_one hg hg2 hj)
  obtain rfl : Q = 9218868437227405312 := by simpa using h3
  exact ⟨A, h1, h2⟩
theorem inf_all : (List.range 51).all (fun u => u == 0 || floatBits .mul .f64 (fl u) 9218868437227405312 == some 9218868437227405312) = true := by decide +kernel
theorem inf_one {u : Nat} (hu : 1 ≤ u) (hu2 : u < 51) : floatBits .mul .f64 (fl u) 9218868437227405312 = some 9218868437227405312 := by
  have h := all_lt inf_all hu2
  have h1 : (u == 0) = false := by simp; omega
  rw [h1, Bool.false_or] at h
  exact eq_of_beq h
theorem inf_inf : floatBits .mul .f64 9218868437227405312 9218868437227405312 = some 9218868437227405312 := by decide +kernel

/-- What 'asks' comes to at a positive figure. -/
theorem asks_pos {g j x : Nat} {ran : Nat} (hr : Fp.ok ran) (hg : 1 ≤ g) (hg2 : g < 8) (hj : j < 4) (hx : 1 ≤ x) (hx2 : x < 8) :
    ∃ A Q S T, floatBits .mul .f64 (rseBits j) (fl x) = some A ∧ floatBits .quo .f64 (fl g) A = some Q ∧ floatBits .mul .f64 ran Q = some S ∧ floatBits .mul .f64 S Q = some T := by
  obtain ⟨A, Q, hA, hQ, hn⟩ := q_pos hg hg2 hj hx hx2
  obtain ⟨S, hS⟩ := Fp.mul_nz hr hn
  obtain ⟨T, hT⟩ := Fp.mul_nz (Fp.mul_ok hS) hn
  exact ⟨A, Q, S, T, hA, hQ, hS, hT⟩
/-- What 'asks' comes to at any figure, 0 among them. -/
theorem asks_any {g j x u : Nat} (hu : 1 ≤ u) (hu2 : u < 51) (hg : 1 ≤ g) (hg2 : g < 8) (hj : j < 4) (hx2 : x < 8) :
    ∃ A Q S T, floatBits .mul .f64 (rseBits j) (fl x) = some A ∧ floatBits .quo .f64 (fl g) A = some Q ∧ floatBits .mul .f64 (fl u) Q = some S ∧ floatBits .mul .f64 S Q = some T := by
  by_cases hx : x = 0
  · subst hx
    obtain ⟨A, h1, h2⟩ := z_pos hg hg2 hj
    exact ⟨_, _, _, _, h1, h2, inf_one hu hu2, inf_inf⟩
  · exact asks_pos (Fp.ofInt_ok _) hg hg2 hj (by omega) hx2
theorem four_nzB : nzB 4616189618054758400 = true := by decide +kernel
theorem four_nz : Fp.nz 4616189618054758400 := four_nzB

/-- Before any spread is found. -/
def bB (p j : Nat) : Bool := twoB (floatBits .mul .f64 (rseBits j) (rseBits j)) (fun a => floatBits .quo .f64 (fl p) a) finB
theorem b_all : (List.range 8).all (fun p => (List.range 4).all fun j => bB p j) = true := by decide +kernel
theorem b_one {p j : Nat} (hp : p < 8) (hj : j < 4) : bB p j = true := all_lt (all_lt b_all hp) hj
theorem spread {p j : Nat} {rch : Nat} (hr : Fp.nz rch) (hp : p < 8) (hj : j < 4) :
    ∃ A B C, floatBits .mul .f64 (rseBits j) (rseBits j) = some A ∧ floatBits .quo .f64 (fl p) A = some B ∧ floatBits .quo .f64 B rch = some C := by
  obtain ⟨A, B, h1, h2, h3⟩ := two_of (b_one hp hj)
  obtain ⟨C, hC⟩ := Fp.quo_nz (x := B) h3 hr
  exact ⟨A, B, C, h1, h2, hC⟩

/-- How the figures stand to 0, and a spread of 0 to what is asked. -/
theorem gt_all : (List.range 8).all (fun x => (FloatKind.f64.format.order (fl x) 0 == some .gt) == (x != 0)) = true := by decide +kernel
theorem gt_fl {x : Nat} (h : x < 8) : (FloatKind.f64.format.order (fl x) 0 == some .gt) = (x != 0) := eq_of_beq (all_lt gt_all h)
def leB (o : Option Nat) : Bool := match o with
  | some a => FloatKind.f64.format.order (fl 0) a == some .lt || FloatKind.f64.format.order (fl 0) a == some .eq
  | none => false
theorem le_of {o : Option Nat} (h : leB o = true) : ∃ A, o = some A ∧ (FloatKind.f64.format.order (fl 0) A == some .lt || FloatKind.f64.format.order (fl 0) A == some .eq) = true := by
  cases o with
  | none => cases h
  | some A => exact ⟨A, rfl, h⟩
theorem le_all : (List.range 4).all (fun j => (List.range 8).all fun x => leB (floatBits .mul .f64 (rseBits j) (fl x))) = true := by decide +kernel
theorem le_one {j x : Nat} (hj : j < 4) (hx : x < 8) : leB (floatBits .mul .f64 (rseBits j) (fl x)) = true := all_lt (all_lt le_all hj) hx

/-- 1/2^j; 1/(r+1). -/
theorem rse_all : (List.range 4).all (fun j => floatBits .quo .f64 4607182418800017408 (fl (2 ^ j)) == some (rseBits j)) = true := by decide +kernel
theorem rse_one {j : Nat} (hj : j < 4) : floatBits .quo .f64 4607182418800017408 (fl (2 ^ j)) = some (rseBits j) := eq_of_beq (all_lt rse_all hj)
def okB (o : Option Nat) : Bool := match o with | some a => nzB a | none => false
theorem ok_of {o : Option Nat} (h : okB o = true) : ∃ A, o = some A ∧ nzB A = true := by
  cases o with
  | none => cases h
  | some A => exact ⟨A, rfl, h⟩
theorem rch_all : (List.range 4).all (fun r => okB (floatBits .quo .f64 4607182418800017408 (fl (r + 1)))) = true := by decide +kernel
theorem rch_one {r : Nat} (hr : r < 4) : ∃ R, floatBits .quo .f64 4607182418800017408 (fl (r + 1)) = some R ∧ Fp.nz R := ok_of (all_lt rch_all hr)
end Go.Proofs.Ybulkauhy.Tb
