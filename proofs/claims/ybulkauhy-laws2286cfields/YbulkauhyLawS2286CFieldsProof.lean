/-
  The proof of 'Rows.LawS2286CFieldsSaid': one struct of five fields by value comes in; the walk by hand, the frame after the kit's template for a struct by value (five fields: the laws for opening and shutting are laid here, after the kit's own for four).
-/
import Derived.Test.YbulkauhyAid
import Derived.Lib.SmallJoins
namespace Go.Proofs.Ybulkauhy.lawS2286CFields
open Go.ChangeShapes Go.WideShapes Go.ChangeAt Go.RowKit Go.Joins Go.Deep

theorem own : ownKnob Yba.prog.godebug = none := by kernel_rfl
theorem cells54 : Yba.prog.cellsOf 54 = 5 := by kernel_rfl

/-! ### The walks: limited or not -/
set_option maxHeartbeats 400000 in
theorem walk_f (g b l h : Int) (w : World) :
    Calls Yba.prog 9 #[.agg #[.int .i64 g, .int .i64 b, .int .i64 l, .bool false, .int .i64 h]] w fun e w' => e = .returned (.bool true) ∧ Grown w w' := by
  go_enter Yba.func9, Yba.ntmps9
  go_wp2
  go_quiet (fail)
  go_wp2
  go_ret
  exact ⟨rfl, Aid.grown_drewN (((Grown.refl _).alloc _ _).alloc _ _) _⟩
set_option maxHeartbeats 400000 in
theorem walk_t (g b l h : Int) (w : World) :
    Calls Yba.prog 9 #[.agg #[.int .i64 g, .int .i64 b, .int .i64 l, .bool true, .int .i64 h]] w fun e w' => e = .returned (.bool true) ∧ Grown w w' := by
  go_enter Yba.func9, Yba.ntmps9
  go_wp2
  go_quiet (fail)
  go_wp2
  go_quiet (fail)
  go_wp2
  go_ret
  exact ⟨rfl, Aid.grown_drewN (Aid.grown_drewN (((Grown.refl _).alloc _ _).alloc _ _) _) _⟩
theorem walk (g b l : Int) (t : Bool) (h : Int) (w : World) :
    Calls Yba.prog 9 #[.agg #[.int .i64 g, .int .i64 b, .int .i64 l, .bool t, .int .i64 h]] w fun e w' => e = .returned (.bool true) ∧ Grown w w' := by
  cases t
  · exact walk_f g b l h w
  · exact walk_t g b l h w

/-! ### A struct of five one-cell fields by value, opened and shut -/
section
variable {H : Type} {enc : TypeId × Value → H} {P : Program} {w : World} {base : Nat} {spare : Nat → Bool} {held : Bool}

theorem array5 {α : Type} {cs : Array α} (h : cs.size = 5) : ∃ c0 c1 c2 c3 c4, cs = #[c0, c1, c2, c3, c4] := by
  obtain ⟨l⟩ := cs
  match l, h with
  | [c0, c1, c2, c3, c4], _ => exact ⟨c0, c1, c2, c3, c4, rfl⟩
theorem list5 {α : Type} {l : List α} (h : l.length = 5) : ∃ c0 c1 c2 c3 c4, l = [c0, c1, c2, c3, c4] := by
  match l, h with
  | [c0, c1, c2, c3, c4], _ => exact ⟨c0, c1, c2, c3, c4, rfl⟩

theorem open5 {r : Reach} {b0 : Nat} {t : TypeId} {f0 f1 f2 f3 f4 : Field} {v : Value} {d : DataW H} {p : List MemPlace} (hs : P.underlying t = some (.struct #[f0, f1, f2, f3, f4])) (hone : oneCellFields P #[f0, f1, f2, f3, f4] = true) (hC : P.cellsOf t = 5)
    (hv : Value.okWide P w r b0 t v) (h : DataW.Trod enc P w base spare held t v d p) :
    ∃ (v0 v1 v2 v3 v4 : Value) (y0 y1 y2 y3 y4 : DataW H × List MemPlace) (n : Nat), v = .agg #[v0, v1, v2, v3, v4] ∧ d = .agg [y0.1, y1.1, y2.1, y3.1, y4.1] ∧ p = y0.2 ++ (y1.2 ++ (y2.2 ++ (y3.2 ++ y4.2))) ∧
      DataW.trod enc P w base spare held n f0.type [v0] = some y0 ∧ DataW.trod enc P w base spare held n f1.type [v1] = some y1 ∧ DataW.trod enc P w base spare held n f2.type [v2] = some y2 ∧ DataW.trod enc P w base spare held n f3.type [v3] = some y3 ∧ DataW.trod enc P w base spare held n f4.type [v4] = some y4 := by
  obtain ⟨cs, rfl, hsz⟩ := okWide_struct hs hv
  obtain ⟨c0, c1, c2, c3, c4, rfl⟩ := array5 (hsz.trans hC)
  obtain ⟨fuel, hf⟩ := h
  obtain ⟨xs, n, _, hx, hl, hlen, hq⟩ := DataW.trod_struct hs hf
  obtain ⟨y0, y1, y2, y3, y4, rfl⟩ := list5 hlen
  obtain ⟨o0, k0⟩ := hone_of hone 0 f0 rfl
  obtain ⟨o1, k1⟩ := hone_of hone 1 f1 rfl
  obtain ⟨o2, k2⟩ := hone_of hone 2 f2 rfl
  obtain ⟨o3, k3⟩ := hone_of hone 3 f3 rfl
  obtain ⟨o4, k4⟩ := hone_of hone 4 f4 rfl
  simp only [Prod.mk.injEq] at hx
  refine ⟨c0, c1, c2, c3, c4, y0, y1, y2, y3, y4, n, rfl, by simpa using hx.1, by simpa using hx.2, ?_, ?_, ?_, ?_, ?_⟩
  · simpa [Value.cells, o0, k0] using hq 0 f0 rfl
  · simpa [Value.cells, o1, k1] using hq 1 f1 rfl
  · simpa [Value.cells, o2, k2] using hq 2 f2 rfl
  · simpa [Value.cells, o3, k3] using hq 3 f3 rfl
  · simpa [Value.cells, o4, k4] using hq 4 f4 rfl
theorem shut5 {t : TypeId} {f0 f1 f2 f3 f4 : Field} {v0 v1 v2 v3 v4 : Value} {y0 y1 y2 y3 y4 : DataW H × List MemPlace} (hs : P.underlying t = some (.struct #[f0, f1, f2, f3, f4])) (hone : oneCellFields P #[f0, f1, f2, f3, f4] = true) (hC : P.cellsOf t = 5)
    (t0 : DataW.trod enc P w base spare held 1 f0.type [v0] = some y0) (t1 : DataW.trod enc P w base spare held 1 f1.type [v1] = some y1) (t2 : DataW.trod enc P w base spare held 1 f2.type [v2] = some y2) (t3 : DataW.trod enc P w base spare held 1 f3.type [v3] = some y3) (t4 : DataW.trod enc P w base spare held 1 f4.type [v4] = some y4) :
    DataW.Trod enc P w base spare held t (.agg #[v0, v1, v2, v3, v4]) (.agg [y0.1, y1.1, y2.1, y3.1, y4.1]) (y0.2 ++ (y1.2 ++ (y2.2 ++ (y3.2 ++ y4.2)))) := by
  obtain ⟨o0, k0⟩ := hone_of hone 0 f0 rfl
  obtain ⟨o1, k1⟩ := hone_of hone 1 f1 rfl
  obtain ⟨o2, k2⟩ := hone_of hone 2 f2 rfl
  obtain ⟨o3, k3⟩ := hone_of hone 3 f3 rfl
  obtain ⟨o4, k4⟩ := hone_of hone 4 f4 rfl
  have ts := trod_struct_mk (enc := enc) (w := w) (base := base) (spare := spare) (held := held) (n := 1) (cs := [v0, v1, v2, v3, v4]) (xs := [y0, y1, y2, y3, y4]) hs (by simp [hC]) (by simp [o0, k0, o1, k1, o2, k2, o3, k3, o4, k4, t0, t1, t2, t3, t4])
  exact ⟨_, by simpa [Value.cells] using ts⟩
end

set_option maxRecDepth 100000 in
theorem lifted (os : Os) (started : os.Started) (H : Type) (enc : TypeId × Value → H) :
    ReturnsInHanded {} Yba.checked os 9 .any (Rows.lawS2286CFieldsSpec.pre6 enc Yba.prog Yba.f9 Rows.lawS2286CFieldsRow.domain false) (Rows.lawS2286CFieldsSpec.post enc Yba.prog Yba.f9 false true false false) := by
  refine returnsInHanded_of_change (C := Yba.checked) own started (by kernel_rfl) Yba.func9
    (ChangeSpec.witness6 (enc := enc) (C := Yba.checked) false ⟨#[], #[.agg #[.int .i64 0, .int .i64 0, .int .i64 0, .bool false, .int .i64 0]], []⟩ 8 (by kernel_rfl) (by kernel_rfl) (by kernel_rfl) (by kernel_rfl)) ?_
  intro W base args ds gs before hval0 hW hcnd _
  have hval : ∀ (j : Nat) t v, Yba.f9.params[j]? = some t → args[j]? = some v → Value.okWide Yba.prog W .any base t v := hval0
  have hW' := hW
  obtain ⟨p, q, hA0, hV, rfl, hfz, hnd⟩ := hW
  have hA : DataW.TrodAll enc Yba.prog W 0 (fun _ => true) true Yba.f9.params.toList args.toList ds p := hA0
  rw [Yba.params9] at hA hval
  obtain ⟨v0, d0, rfl, rfl, h0⟩ := trodAll_one hA
  obtain ⟨rfl, rfl⟩ := trodVars_none hV
  obtain ⟨c0, c1, c2, c3, c4, y0, y1, y2, y3, y4, m, rfl, rfl, rfl, hy0, hy1, hy2, hy3, hy4⟩ := open5 Yba.underlying54 (by kernel_rfl) cells54 (hval 0 54 v0 rfl rfl) h0
  obtain ⟨a0, e0, rfl, x0⟩ := DataW.trod_int Yba.underlying2 hy0
  obtain ⟨a1, e1, rfl, x1⟩ := DataW.trod_int Yba.underlying2 hy1
  obtain ⟨a2, e2, rfl, x2⟩ := DataW.trod_int Yba.underlying2 hy2
  obtain ⟨a3, e3, rfl⟩ := DataW.trod_bool Yba.underlying4 hy3
  obtain ⟨a4, e4, rfl, x4⟩ := DataW.trod_int Yba.underlying2 hy4
  simp at e0 e1 e2 e3 e4
  subst e0 e1 e2 e3 e4
  clear hA0 hval0
  simp only [List.append_nil] at hW'
  have structReads : ∀ (W' : World) (sp : Nat → Bool), DataW.Trod enc Yba.prog W' 0 sp true 54 (.agg #[.int .i64 a0, .int .i64 a1, .int .i64 a2, .bool a3, .int .i64 a4]) (.agg [.lit (.int .i64 a0), .lit (.int .i64 a1), .lit (.int .i64 a2), .lit (.bool a3), .lit (.int .i64 a4)]) [] := fun W' sp =>
    shut5 (y0 := (.lit (.int .i64 a0), [])) (y1 := (.lit (.int .i64 a1), [])) (y2 := (.lit (.int .i64 a2), [])) (y3 := (.lit (.bool a3), [])) (y4 := (.lit (.int .i64 a4), [])) Yba.underlying54 (by kernel_rfl) cells54
      (by simp [DataW.trod, Yba.underlying2, x0]) (by simp [DataW.trod, Yba.underlying2, x1]) (by simp [DataW.trod, Yba.underlying2, x2]) (by simp [DataW.trod, Yba.underlying4]) (by simp [DataW.trod, Yba.underlying2, x4])
  refine (walk a0 a1 a2 a3 a4 W).mono fun e W' ⟨he, hg⟩ => ?_
  subst he
  exact ⟨_, rfl, post_of_same (pa := []) (pv := []) hW' (fun _ _ _ => trodAll_mk1 (shut_bool Yba.underlying4 _)) (fun sp _ => trodAll_mk1 (structReads _ sp)) (fun _ _ => rfl) rfl
    (hg.frame _) hg.2.1 (ok_one (by kernel_rfl) rfl (okWide_bool_mk Yba.underlying4 _))⟩

theorem over : Rows.lawS2286CFieldsRow.holds Yba.pinned (OpenSpec.ofChange Rows.lawS2286CFieldsSpec) :=
  OpenClaim.holds_of_wide 9 Yba.f9 rfl rfl rfl rfl rfl rfl rfl ⟨rfl, rfl, rfl, rfl, rfl⟩ rfl rfl rfl rfl rfl (by kernel_rfl) Yba.func9 (by kernel_rfl)
    (of_decide_eq_true (by kernel_rfl)) (by unfold Func.isWrapper; first | (rw [if_pos (by decide +kernel)]; kernel_rfl) | (rw [if_neg (by decide +kernel)]; exact ⟨rfl, rfl⟩))
    (fun os started H enc _ => lifted os started H enc)

/-- THE STATEMENT -/
theorem proved : Rows.LawS2286CFieldsSaid :=
  over
end Go.Proofs.Ybulkauhy.lawS2286CFields
