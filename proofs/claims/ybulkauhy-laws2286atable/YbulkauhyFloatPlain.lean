/-
  Plain facts on floats, as the model reckons them: a valid operation's result is no NaN; when an operation is valid; how a float stands to +Inf and to the greatest finite float.
-/
import Derived.Laws.FloatArith
namespace Go.Proofs.Ybulkauhy.Fp
open Ieee

/-- The bits are no NaN. -/
def ok (x : Nat) : Prop := (double.read x).isNaN = false
/-- The bits are a finite number that is not 0. -/
def nz (x : Nat) : Prop := (match double.read x with | .number _ m _ => m != 0 | _ => false) = true
/-- The bits are a finite number. -/
def fin (x : Nat) : Prop := (match double.read x with | .number .. => true | _ => false) = true

theorem read_word (f : Format) (neg : Bool) (r : Nat) (h : r ≤ f.infRung) : (f.read (f.word neg r)).isNaN = false := by
  have hl := Nat.lt_of_le_of_lt h f.infRung_lt
  have hm : f.word neg r % f.signWeight = r := by
    unfold Format.word
    split
    · rw [Nat.add_mod_left, Nat.mod_eq_of_lt hl]
    · exact Nat.mod_eq_of_lt hl
  unfold Format.read
  simp only [hm]
  split
  · rfl
  · split
    · rfl
    · split
      · rfl
      · omega
theorem read_write (f : Format) (d : Datum) (h : d.isNaN = false) : (f.read (f.write d)).isNaN = false := by
  cases d with
  | number neg mag place =>
    show (f.read (f.nearest neg mag place)).isNaN = false
    unfold Format.nearest
    dsimp only
    split
    · exact read_word f _ _ (Nat.zero_le _)
    · exact read_word f _ _ (Nat.min_le_right ..)
  | infinity neg => exact read_word f _ _ (Nat.le_refl _)
  | nan neg fraction => cases h

theorem product_ok {a b d : Datum} (h : a.product b = some d) : d.isNaN = false := by
  cases a <;> cases b <;> simp only [Datum.product] at h <;> first | (cases h; done) | (cases h; rfl) | (split at h <;> first | (cases h; done) | (cases h; rfl))
theorem quotient_ok {n : Nat} {a b d : Datum} (h : a.quotient n b = some d) : d.isNaN = false := by
  cases a <;> cases b <;> simp only [Datum.quotient] at h <;> first | (cases h; done) | (cases h; rfl) | (split at h <;> first | (cases h; done) | (cases h; rfl) | (split at h <;> first | (cases h; done) | (cases h; rfl)))

theorem mul_ok {x y r : Nat} (h : floatBits .mul .f64 x y = some r) : ok r := by
  change ((double.read x).product (double.read y)).map double.write = some r at h
  cases hp : (double.read x).product (double.read y) with
  | none => rw [hp] at h; cases h
  | some d => rw [hp] at h; cases h; exact read_write _ _ (product_ok hp)
theorem quo_ok {x y r : Nat} (h : floatBits .quo .f64 x y = some r) : ok r := by
  change ((double.read x).quotient (double.fractionBits + 2) (double.read y)).map double.write = some r at h
  cases hp : (double.read x).quotient (double.fractionBits + 2) (double.read y) with
  | none => rw [hp] at h; cases h
  | some d => rw [hp] at h; cases h; exact read_write _ _ (quotient_ok hp)
theorem ofInt_ok (n : Int) : ok (floatOfInt .f64 n) := read_write double (.number (n < 0) n.natAbs 0) rfl
/-- math.Ceil, where it is no NaN. -/
def ceilBits (x : Nat) : Nat := FloatKind.f64.encode ((FloatKind.f64.decode x).integral .up)
theorem ceil_ok {x : Nat} (h : ok x) : ok (ceilBits x) := by
  refine read_write double _ ?_
  unfold ok at h
  change ((double.read x).integral .up).isNaN = false
  cases hd : double.read x <;> rw [hd] at h <;> first | rfl | cases h

theorem fin_of_nz {x : Nat} (h : nz x) : fin x := by
  unfold nz at h; unfold fin
  cases hd : double.read x <;> rw [hd] at h <;> first | rfl | cases h
theorem ok_of_fin {x : Nat} (h : fin x) : ok x := by
  unfold fin at h; unfold ok
  cases hd : double.read x <;> rw [hd] at h <;> first | rfl | cases h

/-! ### When an operation is valid -/
theorem mul_fin {x y : Nat} (hx : fin x) (hy : fin y) : ∃ r, floatBits .mul .f64 x y = some r := by
  unfold fin at hx hy
  change ∃ r, ((double.read x).product (double.read y)).map double.write = some r
  cases hp : double.read x <;> rw [hp] at hx <;> first | (cases hx; done) | skip
  cases hq : double.read y <;> rw [hq] at hy <;> first | (cases hy; done) | skip
  exact ⟨_, rfl⟩
theorem mul_nz {x y : Nat} (hx : ok x) (hy : nz y) : ∃ r, floatBits .mul .f64 x y = some r := by
  unfold ok at hx
  unfold nz at hy
  change ∃ r, ((double.read x).product (double.read y)).map double.write = some r
  cases hq : double.read y <;> rw [hq] at hy <;> first | (cases hy; done) | skip
  rename_i t n j
  have hn : ¬ n = 0 := by simpa using hy
  cases hp : double.read x <;> rw [hp] at hx <;> first | (cases hx; done) | skip
  · exact ⟨_, rfl⟩
  · simp [Datum.product, hn]
theorem nz_mul {x y : Nat} (hx : nz x) (hy : ok y) : ∃ r, floatBits .mul .f64 x y = some r := by
  unfold ok at hy
  unfold nz at hx
  change ∃ r, ((double.read x).product (double.read y)).map double.write = some r
  cases hq : double.read x <;> rw [hq] at hx <;> first | (cases hx; done) | skip
  rename_i t n j
  have hn : ¬ n = 0 := by simpa using hx
  cases hp : double.read y <;> rw [hp] at hy <;> first | (cases hy; done) | skip
  · exact ⟨_, rfl⟩
  · simp [Datum.product, hn]
theorem quo_nz {x y : Nat} (hx : fin x) (hy : nz y) : ∃ r, floatBits .quo .f64 x y = some r := by
  unfold fin at hx
  unfold nz at hy
  change ∃ r, ((double.read x).quotient (double.fractionBits + 2) (double.read y)).map double.write = some r
  cases hq : double.read y <;> rw [hq] at hy <;> first | (cases hy; done) | skip
  rename_i t n j
  have hn : ¬ n = 0 := by simpa using hy
  cases hp : double.read x <;> rw [hp] at hx <;> first | (cases hx; done) | skip
  simp [Datum.quotient, hn]
theorem nz_quo {x y : Nat} (hx : nz x) (hy : fin y) : ∃ r, floatBits .quo .f64 x y = some r := by
  unfold fin at hy
  unfold nz at hx
  change ∃ r, ((double.read x).quotient (double.fractionBits + 2) (double.read y)).map double.write = some r
  cases hq : double.read x <;> rw [hq] at hx <;> first | (cases hx; done) | skip
  rename_i t n j
  have hn : ¬ n = 0 := by simpa using hx
  cases hp : double.read y <;> rw [hp] at hy <;> first | (cases hy; done) | skip
  rename_i t2 n2 j2
  by_cases h2 : n2 = 0
  · simp [Datum.quotient, h2, hn]
  · simp [Datum.quotient, h2]

/-! ### Comparing -/
theorem order_self {x : Nat} (h : ok x) : FloatKind.f64.format.order x x = some .eq := by
  unfold ok at h
  change (double.read x).order (double.read x) = some .eq
  cases hd : double.read x <;> rw [hd] at h <;> first | (cases h; done) | simp [Datum.order]
theorem order_some {x y : Nat} (hx : ok x) (hy : ok y) : ∃ o, FloatKind.f64.format.order x y = some o := by
  unfold ok at hx hy
  change ∃ o, (double.read x).order (double.read y) = some o
  cases hd : double.read x <;> rw [hd] at hx <;> first | (cases hx; done) | skip
  all_goals (cases he : double.read y <;> rw [he] at hy <;> first | (cases hy; done) | exact ⟨_, rfl⟩)
theorem read_inf : double.read 9218868437227405312 = .infinity false := by decide +kernel
theorem read_max : double.read 9218868437227405311 = .number false 9007199254740991 971 := by decide +kernel
theorem read_bound {x : Nat} {s : Bool} {m : Nat} {i : Int} (h : double.read x = .number s m i) : m ≤ 9007199254740991 ∧ i ≤ 971 := by
  unfold Format.read at h
  have hb : double.binade = 4503599627370496 := by decide +kernel
  have hi : double.infRung = 9218868437227405312 := by decide +kernel
  have hl : double.leastPlace = -1074 := by decide +kernel
  rw [hb, hi, hl] at h
  dsimp only at h
  generalize x % double.signWeight = r at h
  split at h
  · cases h; omega
  · split at h
    · cases h
      have : r % 4503599627370496 < 4503599627370496 := Nat.mod_lt _ (by omega)
      omega
    · split at h <;> cases h
theorem shl_le (M k : Nat) : M ≤ M <<< k := by rw [Nat.shiftLeft_eq]; exact Nat.le_mul_of_pos_right _ (Nat.two_pow_pos _)
theorem number_not_gt {s : Bool} {m : Nat} {i : Int} (hm : m ≤ 9007199254740991) (hi : i ≤ 971) :
    ((Datum.number s m i).order (.number false 9007199254740991 971) == some .gt) = false := by
  have hb : min i 971 = i := by omega
  have h0 : (i - i).toNat = 0 := by omega
  have hs : signed s m 0 ≤ (m : Int) := by
    unfold signed
    simp only [Nat.shiftLeft_zero]
    split <;> omega
  have ht := shl_le 9007199254740991 (971 - i).toNat
  have hc : signed s m 0 ≤ signed false 9007199254740991 (971 - i).toNat := by
    refine Int.le_trans hs ?_
    unfold signed
    simp only [Bool.false_eq_true, if_false]
    omega
  simp only [Datum.order, hb, h0]
  generalize signed false 9007199254740991 (971 - i).toNat = y at hc
  generalize signed s m 0 = x at hc
  have : compare x y ≠ .gt := by
    intro h
    rw [Int.compare_eq_gt] at h
    omega
  simpa using this
/-- 'x > MaxFloat64' says just what '!(x < Inf)' says, of what is no NaN. -/
theorem inf_max {x : Nat} (h : ok x) : (FloatKind.f64.format.order x 9218868437227405311 == some .gt) = !(FloatKind.f64.format.order x 9218868437227405312 == some .lt) := by
  unfold ok at h
  change ((double.read x).order (double.read 9218868437227405311) == some .gt) = !((double.read x).order (double.read 9218868437227405312) == some .lt)
  rw [read_inf, read_max]
  cases hd : double.read x with
  | number s m i =>
    obtain ⟨hm, hi⟩ := read_bound hd
    rw [number_not_gt hm hi]
    rfl
  | infinity s => cases s <;> decide
  | nan s t => rw [hd] at h; cases h

/-! ### NaN -/
theorem order_nan_left {x y : Nat} (h : ¬ ok x) : FloatKind.f64.format.order x y = none := by
  unfold ok at h
  change (double.read x).order (double.read y) = none
  cases hd : double.read x <;> rw [hd] at h <;> first | rfl | exact absurd rfl h
theorem order_nan_right {x y : Nat} (h : ¬ ok y) : FloatKind.f64.format.order x y = none := by
  unfold ok at h
  change (double.read x).order (double.read y) = none
  cases hd : double.read y <;> rw [hd] at h <;> first | (cases double.read x <;> rfl) | exact absurd rfl h
theorem mul_nan {x y : Nat} (h : ¬ ok y) : floatBits .mul .f64 x y = none := by
  unfold ok at h
  change ((double.read x).product (double.read y)).map double.write = none
  cases hd : double.read y <;> rw [hd] at h <;> first | (cases double.read x <;> rfl) | exact absurd rfl h
/-- What the tape gives where the language fixes no bits: a NaN. -/
theorem drawn_nan (t : Nat) : ¬ ok ((t % 2) * 2 ^ 63 + 0x7ff0000000000000 + 1 + (t / 2) % (2 ^ 52 - 1)) := by
  have h1 : t % 2 < 2 := Nat.mod_lt _ (by omega)
  have h2 : (t / 2) % (2 ^ 52 - 1) < 2 ^ 52 - 1 := Nat.mod_lt _ (by omega)
  generalize (t / 2) % (2 ^ 52 - 1) = r at h2
  generalize t % 2 = q at h1
  have hs : double.signWeight = 9223372036854775808 := by decide +kernel
  have hb : double.binade = 4503599627370496 := by decide +kernel
  have hi : double.infRung = 9218868437227405312 := by decide +kernel
  have hm : (q * 2 ^ 63 + 0x7ff0000000000000 + 1 + r) % 9223372036854775808 = 0x7ff0000000000000 + 1 + r := by omega
  unfold ok Format.read
  rw [hs, hb, hi]
  dsimp only
  rw [hm, if_neg (by omega), if_neg (by omega), if_neg (by omega)]
  simp [Datum.isNaN]

/-! ### The small figures, one by one -/
theorem ofInt_nz (n : Int) (h1 : 1 ≤ n) (h2 : n ≤ 50) : nz (floatOfInt .f64 n) := by
  have key : ∀ k : Fin 51, 1 ≤ k.val → nz (floatOfInt .f64 (k.val : Int)) := by unfold nz; decide +kernel
  obtain ⟨k, rfl⟩ := Int.eq_ofNat_of_zero_le (show 0 ≤ n by omega)
  exact key ⟨k, by omega⟩ (by simp; omega)
theorem ofInt_fin (n : Int) (h1 : 0 ≤ n) (h2 : n ≤ 50) : fin (floatOfInt .f64 n) := by
  have key : ∀ k : Fin 51, fin (floatOfInt .f64 (k.val : Int)) := by unfold fin; decide +kernel
  obtain ⟨k, rfl⟩ := Int.eq_ofNat_of_zero_le h1
  exact key ⟨k, by omega⟩
end Go.Proofs.Ybulkauhy.Fp
