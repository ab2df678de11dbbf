/-
  The proof of 'Rows.LawS2297AModelSaid': the frame after the kit's own for slices that came in ('Below'; the reach by the sized builder), a slice of slices of numbers opened here, each number read as the field that it stands for; the walk: YbulkaunwModelWalk.
-/
import Derived.Test.YbulkaunwModelWalk
import Derived.ProofKit
import Derived.OpenShut
import Derived.ChangeOld
import Derived.SizedLaws
import Derived.ChangeSlices
namespace Go.Proofs.Ybulkaunw.lawS2297AModel
open Go.ChangeShapes Go.WideShapes Go.ChangeAt Go.RowKit Go.Deep
open It (IsInts IsMRows fldOf)

theorem own : ownKnob Yba.prog.godebug = none := by kernel_rfl
theorem laidOut : laidOutB Yba.prog = true := by kernel_rfl
theorem cells23 : Yba.prog.cellsOf 23 = 1 := by kernel_rfl
theorem cells5 : Yba.prog.cellsOf 5 = 1 := by kernel_rfl
theorem bytes5 : Yba.prog.bytesOf 5 = 1 := by kernel_rfl

theorem weightsAll_mem {H : Type} {P : Program} {e : TypeId} : ∀ {ds : List (DataW H)} {d : DataW H}, d ∈ ds → ∀ n ∈ d.weights P e, n ∈ DataW.weightsAll P e ds
  | [], _, h, _, _ => by cases h
  | x :: ds, d, h, n, hn => by
    simp only [DataW.weightsAll, List.mem_append]
    rcases List.mem_cons.1 h with rfl | h
    · exact .inl hn
    · exact .inr (weightsAll_mem h n hn)
/-- An inner slice lies within the reach too. -/
theorem inner_sized {H : Type} {P : Program} {ts : List TypeId} {ds : List (DataW H)} (h : (DataW.weightsEach P ts ds).all (· ≤ reachBytes) = true) {j : Nat} {t e q : TypeId} {elems spare es ss : List (DataW H)} (ht : ts[j]? = some t) (hd : ds[j]? = some (.slice elems spare))
    (hu : P.underlying t = some (.slice e)) (hq : P.underlying e = some (.slice q)) (hm : DataW.slice es ss ∈ elems) : (es.length + ss.length) * P.bytesOf q ≤ reachBytes := by
  have h1 : (es.length + ss.length) * P.bytesOf q ∈ (DataW.slice es ss).weights P e := by simp [DataW.weights, hq]
  have h2 : (es.length + ss.length) * P.bytesOf q ∈ (DataW.slice elems spare).weights P t := by
    simp only [DataW.weights, hu, List.mem_cons, List.mem_append]
    exact .inr (.inl (weightsAll_mem hm _ h1))
  have := List.all_eq_true.1 h _ (DataW.weights_mem_each ht hd _ h2)
  simpa using this
theorem addr_add {b off i : Nat} : (⟨b, off, none⟩ : Addr).add i = ⟨b, off + i, none⟩ := by unfold Addr.add; split <;> simp_all

/-- A number that came in. -/
theorem num_range {z : Int} (h : (Lit.int .u8 z).wf = true) : 0 ≤ z ∧ z ≤ 255 := by
  simp [Lit.wf, IntKind.min, IntKind.max, IntKind.bits, IntKind.signed] at h
  omega

/-- One row. -/
theorem open_row {H : Type} {enc : TypeId × Value → H} {W : World} {fuel : Nat} {v : Value} {y : DataW H × List MemPlace} (h : DataW.trod enc Yba.prog W 0 (fun _ => true) true fuel 23 [v] = some y) :
    ∃ row : List ByteArray, (∃ ai ci, v = .slice ai row.length ci ∧ IsInts W ai row) ∧ (y.1 = .nil ∧ row = [] ∨ ∃ es ss, y.1 = .slice es ss ∧ es.length = row.length) := by
  rcases open_ints Yba.underlying23 Yba.underlying5 cells5 h with ⟨hcs, hx⟩ | ⟨a, len, cap, zs, hcs, _, hl, _, hlen, hx, hcell, hwf⟩
  · simp at hcs
    subst hcs
    exact ⟨[], ⟨none, 0, rfl, .inl rfl⟩, .inl ⟨by rw [hx], rfl⟩⟩
  · simp at hcs
    subst hcs
    have hlen' : zs.length = cap := by simpa using hlen
    have htl : ((zs.take len).map fldOf).length = len := by rw [List.length_map, List.length_take]; omega
    refine ⟨(zs.take len).map fldOf, ⟨some a, cap, by rw [htl], ?_⟩, .inr ⟨_, _, by rw [hx], by simp [lits]⟩⟩
    by_cases h0 : (zs.take len).map fldOf = []
    · exact .inl h0
    · right
      have hpos : 0 < zs.length := by
        rcases zs with _ | ⟨x, zs⟩
        · simp at h0
        · simp
      obtain ⟨b, off, spot⟩ := a
      have hspot : spot = none := by simpa [Addr.add] using World.cell?_spot (hcell 0 hpos)
      subst hspot
      refine ⟨b, off, rfl, fun j hj => ?_⟩
      have hj' : j < zs.length := by rw [List.length_map, List.length_take] at hj; omega
      have hc := hcell j hj'
      rw [addr_add] at hc
      have hz := num_range (hwf zs[j] (List.getElem_mem hj'))
      refine ⟨zs[j], hz.1, hz.2, ?_, ?_⟩
      · rw [hc]; simp [hj']
      · rw [List.getElem_map, List.getElem_take]

set_option maxRecDepth 100000 in
theorem lifted (os : Os) (started : os.Started) (H : Type) (enc : TypeId × Value → H) :
    ReturnsInHanded {} Yba.checked os 3 .any (Rows.lawS2297AModelSpec.pre6 enc Yba.prog Yba.f3 Rows.lawS2297AModelRow.domain false) (Rows.lawS2297AModelSpec.post enc Yba.prog Yba.f3 false true false false) := by
  refine returnsInHanded_of_change_sized (C := Yba.checked) own started (by kernel_rfl) Yba.func3
    (ChangeSpec.witness6 (enc := enc) (C := Yba.checked) false ⟨#[], #[.slice none 0 0, .int .u8 0], []⟩ 8 (by kernel_rfl) (by kernel_rfl) (by kernel_rfl) (by kernel_rfl)) ?_
  intro W base args ds gs before hval0 hW hcnd hsz0 _
  have hsz : (DataW.weightsEach Yba.prog (Yba.f3.params.toList ++ Rows.lawS2297AModelSpec.plain.varTypes Yba.prog) (ds ++ gs)).all (· ≤ reachBytes) = true := hsz0
  clear hsz0
  have hval : ∀ (j : Nat) t v, Yba.f3.params[j]? = some t → args[j]? = some v → Value.okWide Yba.prog W .any base t v := hval0
  have hW' := hW
  obtain ⟨p, q, hA0, hV, rfl, hfz, hnd⟩ := hW
  have hA : DataW.TrodAll enc Yba.prog W 0 (fun _ => true) true Yba.f3.params.toList args.toList ds p := hA0
  rw [Yba.params3] at hA hval hsz
  obtain ⟨v0, v1, d0, d1, p0, p1, rfl, rfl, rfl, h0, h1⟩ := trodAll_two hA
  obtain ⟨rfl, rfl⟩ := trodVars_none hV
  obtain ⟨a0, len0, cap0, rfl⟩ := okWide_slice Yba.underlying22 (hval 0 22 v0 rfl rfl)
  have k0 := h0
  have lt0 : ∀ x ∈ p0, x.block < W.heap.size := by obtain ⟨m, hm⟩ := k0; exact DataW.trod_lt m _ _ _ hm
  obtain ⟨R, hlen, hR, hw⟩ : ∃ R : List (List ByteArray), len0 = R.length ∧ IsMRows W a0 R ∧ ∀ i, (h : i < R.length) → R[i].length ≤ 140737488355328 := by
    obtain ⟨fuel, hf⟩ := h0
    rcases open_slice1 Yba.underlying22 cells23 hf with ⟨hcs, _⟩ | ⟨x, l, c, m, n, V, D, Pl, hcs, _, hl, hm, hmm, hx, hel⟩
    · simp [Value.cells] at hcs
      obtain ⟨rfl, rfl, rfl⟩ := hcs
      exact ⟨[], rfl, .inl rfl, fun i h => absurd h (by simp)⟩
    · simp [Value.cells] at hcs
      obtain ⟨rfl, rfl, rfl⟩ := hcs
      simp only [if_true] at hmm
      subst hmm
      simp only [Prod.mk.injEq] at hx
      obtain ⟨rfl, rfl⟩ := hx
      obtain ⟨row, hrow⟩ := choose_lt (α := List ByteArray) (n := len0) (p := fun i r => (∃ ai ci, V i = .slice ai r.length ci ∧ IsInts W ai r) ∧ (D i = .nil ∧ r = [] ∨ ∃ es ss, D i = .slice es ss ∧ es.length = r.length)) (fun i hi => open_row (hel i (by omega)).2)
      refine ⟨(List.range len0).map row, by simp, ?_, ?_⟩
      · by_cases hz : len0 = 0
        · subst hz; exact .inl rfl
        · right
          obtain ⟨b, off, spot⟩ := x
          have hspot : spot = none := by simpa [Addr.add] using World.cell?_spot (hel 0 (by omega)).1
          subst hspot
          refine ⟨b, off, rfl, fun i hi => ?_⟩
          have hi' : i < len0 := by simpa using hi
          obtain ⟨⟨ai, ci, hv, hst⟩, _⟩ := hrow i hi'
          have hcl := (hel i (by omega)).1
          rw [addr_add, hv] at hcl
          have e : ((List.range len0).map row)[i] = row i := by simp
          rw [e]
          exact ⟨ai, ci, hcl, hst⟩
      · intro i hi
        have hi' : i < len0 := by simpa using hi
        have e : ((List.range len0).map row)[i] = row i := by simp
        rw [e]
        rcases (hrow i hi').2 with ⟨_, h⟩ | ⟨es, ss, hD, hes⟩
        · rw [h]; simp
        · have := inner_sized hsz (j := 0) (t := 22) (e := 23) (q := 5) rfl rfl Yba.underlying22 Yba.underlying23 (List.mem_map.2 ⟨i, List.mem_range.2 hi', hD⟩)
          rw [bytes5] at this
          simp only [reachBytes] at this
          omega
  subst hlen
  obtain ⟨s1, rfl, rfl, rfl, w1⟩ := open_int Yba.underlying5 (hval 1 5 v1 rfl rfl) h1
  clear hA0 hval0
  refine (It.model_walk a0 cap0 R s1 (fldOf s1) rfl (num_range w1).1 (num_range w1).2 W hR hw).mono fun e W' ⟨he, bel⟩ => ?_
  subst he
  exact ⟨_, rfl, _, _, _, [], _, [], hW', trodAll_mk1 (shut_bool Yba.underlying4 _), (trodAll_mk2 (Below.trod laidOut (by kernel_rfl) (of_decide_eq_true (by kernel_rfl)) k0 bel lt0) (shut_int Yba.underlying5 w1)), rfl, bel.frame _, fun h => by cases h⟩

theorem over : Rows.lawS2297AModelRow.holds Yba.pinned (OpenSpec.ofChange Rows.lawS2297AModelSpec) :=
  OpenClaim.holds_of_wide 3 Yba.f3 rfl rfl rfl rfl rfl rfl rfl ⟨rfl, rfl, rfl, rfl, rfl⟩ rfl rfl rfl rfl rfl (by kernel_rfl) Yba.func3 (by kernel_rfl)
    (of_decide_eq_true (by kernel_rfl)) (by unfold Func.isWrapper; first | (rw [if_pos (by decide +kernel)]; kernel_rfl) | (rw [if_neg (by decide +kernel)]; exact ⟨rfl, rfl⟩))
    (fun os started H enc _ => lifted os started H enc)

/-- THE STATEMENT -/
theorem proved : Rows.LawS2297AModelSaid :=
  over
end Go.Proofs.Ybulkaunw.lawS2297AModel
