/-
  '(*Scheme).sends': whether a header carries the field: the range over the iterator, by the kit's law; then as a plain contract.
-/
import Derived.Test.YbulkaunwIter
namespace Go.Proofs.Ybulkaunw.It
open Go.RowKit Go.Shelf
attribute [local go_sem] Oper.semAt_some

def fld {H : List (List ByteArray)} (x : Pl H) : ByteArray := (H[x.1.1]'x.2.1)[x.1.2]'x.2.2.1

theorem cell_of_box_l {W : World} {B : Nat} {v : Value} {t : TypeId} (h : W.heap[B]? = some (.cells #[v] t (0, 0))) : W.cell? ⟨B, 0, none⟩ = some v ∧ W.frozen? ⟨B, 0, none⟩ = false := by
  constructor <;> simp [World.cell?, World.frozen?, h]
theorem cell_new_l (W : World) (v : Value) (t : TypeId) : (W.alloc (.cells #[v] t)).cell? ⟨W.heap.size, 0, none⟩ = some v ∧ (W.alloc (.cells #[v] t)).frozen? ⟨W.heap.size, 0, none⟩ = false :=
  cell_of_box_l (World.alloc_heap_new W _)
theorem cell_alloc_l {W : World} {a : Addr} {v : Value} (o : Obj) (h : W.cell? a = some v) : (W.alloc o).cell? a = some v := cell_kept h (World.grownBy_alloc W o none) (fun r e => by cases e)
theorem frozen_alloc_l {W : World} {a : Addr} {v : Value} (o : Obj) (h : W.cell? a = some v) (hf : W.frozen? a = false) : (W.alloc o).frozen? a = false := (frozen_kept h (World.grownBy_alloc W o none) (fun r e => by cases e)).trans hf
theorem HdrsAt.mono {n₀ n₁ : Nat} (hn : n₀ ≤ n₁) {W : World} {g : Nat} {H : List (List ByteArray)} (hh : HdrsAt n₀ W g H) : HdrsAt n₁ W g H := by
  intro i hi
  obtain ⟨v, hv, gi, ci, rfl, hgi, hfl, hp⟩ := hh i hi
  exact ⟨_, hv, gi, ci, rfl, Nat.lt_of_lt_of_le hgi hn, hfl, hp⟩
theorem Laid.grow {n₀ n₁ : Nat} {A B : World} {hv : Value} {g : Nat} {H : List (List ByteArray)} (h : Laid n₀ A hv g H) (hb : Below n₀ A B) (hn : n₀ ≤ n₁) : Laid n₁ B hv g H := by
  rcases h with ⟨rfl, rfl⟩ | ⟨cap, rfl, hg, hlen, hh⟩
  · exact .inl ⟨rfl, rfl⟩
  · exact .inr ⟨cap, rfl, Nat.lt_of_lt_of_le hg hn, hlen, (hh.below hb hg).mono hn⟩
/-- What a place reads in memory. -/
theorem Laid.at {n₀ : Nat} {W : World} {hv : Value} {g : Nat} {H : List (List ByteArray)} (h : Laid n₀ W hv g H) (x : Pl H) :
    ∃ gi ci len : Nat, g < n₀ ∧ gi < n₀ ∧ x.1.2 < len ∧ len ≤ 4096 ∧ W.cell? ⟨g, x.1.1 * 3 + 2, none⟩ = some (.slice (some ⟨gi, 0, none⟩) len ci) ∧ W.cell? ⟨gi, x.1.2 * 5, none⟩ = some (.string (fld x)) := by
  obtain ⟨⟨a, b⟩, h1, h2, h3⟩ := x
  dsimp only at h1 h2 h3 ⊢
  rcases h with ⟨rfl, rfl⟩ | ⟨cap, rfl, hg, hlen, hh⟩
  · exact absurd h1 (by simp)
  · obtain ⟨v, hc, gi, ci, rfl, hgi, hfl, hp⟩ := hh a h1
    exact ⟨gi, ci, _, hg, hgi, h2, hfl, hc, (hp b h2).1⟩

set_option maxRecDepth 100000 in
set_option maxHeartbeats 2000000 in
theorem sends_in (F : Fence) (n : Nat) (h7 : F.fn 7) (h8 : F.fn 8) (h9 : F.fn 9) (hro : F.round = none) (hn : 3 ≤ n) (sb g : Nat) (hv : Value) (H : List (List ByteArray)) (f : ByteArray) (w : World)
    (hsb : sb < w.heap.size) (c1 : w.cell? ⟨sb, 9, none⟩ = some hv) (hL : Laid w.heap.size w hv g H) :
    CallsIn F n Yba.prog 7 #[.pointer (some ⟨sb, 0, none⟩), .string f] w fun e W' => (∃ b : Bool, e = .returned (.bool b) ∧ (b = true ↔ ∃ x : Pl H, (fld x).toList = f.toList)) ∧ Below w.heap.size w W' := by
  have h1 : 1 ≤ n := by omega
  refine callsIn_of_wp_marks Yba.func7 rfl h7 ?_ hro
  simp only [Yba.ntmps7, List.size_toArray, List.length_cons, List.length_nil, Nat.reduceAdd, Nat.reduceSub, Array.replicate_succ, Array.replicate_zero, List.push_toArray, List.append_toArray, List.nil_append, List.cons_append]
  gi_wp2_with (gi_at_call 8; refine (carried_in F (n - 1) h8 hro _ _).mono ?_; rintro e w' ⟨rfl, rfl⟩)
  have k0 := cell_new_l w (.string f) 24
  have k1 := cell_new_l (w.alloc (.cells #[.string f] 24)) (.bool false) 4
  have k2 := cell_new_l ((w.alloc (.cells #[.string f] 24)).alloc (.cells #[.bool false] 4)) (.pointer (some ⟨sb, 0, none⟩)) 26
  simp only [World.size_alloc] at k1 k2
  have hB0 : Below w.heap.size w (((w.alloc (.cells #[.string f] 24)).alloc (.cells #[.bool false] 4)).alloc (.cells #[.pointer (some ⟨sb, 0, none⟩)] 26)) := (((Below.refl _ w).alloc (Nat.le_refl _) _).alloc (by simp) _).alloc (by simp; omega) _
  refine wpIn_rangeFunc_ownF hro h1 (gf := 9) (lb := #[.pointer (some ⟨w.heap.size + 1 + 1, 0, none⟩)]) rfl h9 (enters_of Yba.func9 (by kernel_rfl) rfl)
    (carried_stops F (n - 1) h9 hro (by omega) (w.heap.size + 1 + 1) sb (w.heap.size + 1 + 1 + 1) g hv H _ (by omega) (by omega) (by simp) k2.1 ((hB0.cell (p := ⟨sb, 9, none⟩) hsb).trans c1) (hL.grow hB0 (by omega)))
    belowK_t (belowK_b (by simp)) (Below.refl _ _) (fun _ => rfl)
    (fun pre W => ((∀ y ∈ pre, (fld y).toList ≠ f.toList) ∧ W.cell? ⟨w.heap.size, 0, none⟩ = some (.string f) ∧ W.cell? ⟨w.heap.size + 1, 0, none⟩ = some (.bool false) ∧ W.frozen? ⟨w.heap.size + 1, 0, none⟩ = false) ∧ Below w.heap.size w W)
    (fun c pre W => (c = .ret ∧ (∃ x : Pl H, (fld x).toList = f.toList) ∧ W.cell? ⟨w.heap.size + 1, 0, none⟩ = some (.bool true)) ∧ Below w.heap.size w W)
    (OwnFrom.and (Own.from (fun s A B row hs hg hr => ⟨hs.1, cell_kept hs.2.1 hg hr, cell_kept hs.2.2.1 hg hr, (frozen_kept hs.2.2.1 hg hr).trans hs.2.2.2⟩) _) (ownFrom_below (Nat.le_refl _) (by simp; omega)))
    (fun c => OwnFrom.and (Own.from (fun s A B row hs hg hr => ⟨hs.1, hs.2.1, cell_kept hs.2.2 hg hr⟩) _) (ownFrom_below (Nat.le_refl _) (by simp; omega)))
    ⟨⟨by simp, cell_alloc_l _ (cell_alloc_l _ k0.1), cell_alloc_l _ k1.1, frozen_alloc_l _ k1.1 k1.2⟩, hB0⟩
    (fun x => { tmps := #[.pointer (some ⟨sb, 0, none⟩), .string f, undef, .pointer (some ⟨w.heap.size, 0, none⟩), .pointer (some ⟨w.heap.size + 1, 0, none⟩), .pointer (some ⟨g, x.1.1 * 3, none⟩), .int .i64 (x.1.2 : Int), .pointer (some ⟨sb, 0, none⟩), .func (.func 9) #[] #[.pointer (some ⟨w.heap.size + 1 + 1, 0, none⟩)], .pointer (some ⟨g, x.1.1 * 3, none⟩), .int .i64 (x.1.2 : Int), undef, undef, undef, undef, undef, undef, undef, undef, undef, undef], defers := [] }) ?assign ?body ?done ?stop
  case assign =>
    intro l x W K hK
    simp only [encs]
    gi_wp2
    exact hK
  case body =>
    rintro l pre x W ⟨⟨hp, hcw, hcr, hfr⟩, hB⟩ _
    obtain ⟨gi, ci, len, hg, hgi, hj, hlen, m0, m1⟩ := hL.at x
    have d0 := (hB.cell (p := ⟨g, x.1.1 * 3 + 2, none⟩) hg).trans m0
    have d1 := (hB.cell (p := ⟨gi, x.1.2 * 5, none⟩) hgi).trans m1
    have HB : Hid (Below w.heap.size w W) := hB
    have HP : Hid (∀ y ∈ pre, (fld y).toList ≠ f.toList) := hp
    clear hB hp m0 m1 hL c1 hB0 k0 k1 k2
    generalize hfx : fld x = fx at d1
    have HX : Hid (fld x = fx) := hfx
    clear hfx
    have hmix : Yba.prog.follows Departure.mixedOrders = true := by kernel_rfl
    by_cases he : (fx.toList == f.toList) = true
    · have T : Hid (KeepsOthers W ((W.setCell ⟨w.heap.size + 1, 0, none⟩ (.bool true)).drew) ∧ (∃ x : Pl H, (fld x).toList = f.toList) ∧ ((W.setCell ⟨w.heap.size + 1, 0, none⟩ (.bool true)).drew).cell? ⟨w.heap.size + 1, 0, none⟩ = some (.bool true) ∧ Below w.heap.size w ((W.setCell ⟨w.heap.size + 1, 0, none⟩ (.bool true)).drew)) :=
        ⟨(KeepsOthers.setCell _ _ _).trans (KeepsOthers.drew _), ⟨x, by rw [HX.out]; exact eq_of_beq he⟩, World.cell?_setCell_same' _ _ _ (by rw [hcr]; rfl), (HB.out.setCell (p := ⟨w.heap.size + 1, 0, none⟩) (by simp) _).drew⟩
      clear HP HX HB
      gi_wp2
      gi_region_with_o (fail)
      all_goals gi_wp2
      all_goals exact ⟨T.out.1, ⟨rfl, T.out.2.1, T.out.2.2.1⟩, T.out.2.2.2⟩
    · have he' : (fx.toList == f.toList) = false := by simpa using he
      have T : Hid (KeepsOthers W W.drew ∧ Below (w.heap.size + 1 + 1 + 1) W W.drew ∧ (∀ y ∈ pre ++ [x], (fld y).toList ≠ f.toList) ∧ Below w.heap.size w W.drew) :=
        ⟨KeepsOthers.drew _, (Below.refl _ _).drew, fun y hy => (List.mem_append.1 hy).elim (HP.out y) (fun e e' => by simp at e; subst e; rw [HX.out] at e'; simp [e'] at he'), HB.out.drew⟩
      clear he HP HX HB
      gi_wp2
      gi_region_with_o (fail)
      all_goals gi_wp2
      all_goals exact ⟨T.out.1, T.out.2.1, ⟨T.out.2.2.1, hcw, hcr, hfr⟩, T.out.2.2.2⟩
  case done =>
    rintro D ys W hD hys ⟨⟨hne, _, hcr, hfr⟩, hB⟩ hK
    gi_wp2
    have hK' := (KeepsOthers.setCell W ⟨w.heap.size + 1, 0, none⟩ (.bool false)).same D _ hK rfl
    refine ⟨by simp, .inl ⟨_, _, rfl, run_takeDeferred hK', ?_⟩⟩
    have hc5 := cell_kept (World.cell?_setCell_same' W ⟨w.heap.size + 1, 0, none⟩ (.bool false) (by rw [hcr]; rfl)) (grownBy_putObj' _ D (.deferred none)) (fun r e => by cases e; exact ⟨_, hK', rfl⟩)
    refine ⟨.bool false, ?_, ⟨false, rfl, ⟨fun h => (by cases h), fun ⟨x, hx⟩ => absurd hx (hne x (hys x))⟩⟩, (hB.setCell (p := ⟨w.heap.size + 1, 0, none⟩) (by simp) _).trans (belowK_b (w := w) (Nat.le_refl _) _ D _ _ (by simp at hD; omega) hK' rfl rfl)⟩
    simp [results, Yba.f7, go_sem, hc5]
  case stop =>
    rintro D c pre W hD hpre ⟨⟨rfl, hin, hcr⟩, hB⟩ hK
    gi_wp2
    refine ⟨by simp, .inl ⟨_, _, rfl, run_takeDeferred hK, ?_⟩⟩
    have hc5 := cell_kept hcr (grownBy_putObj' _ D (.deferred none)) (fun r e => by cases e; exact ⟨_, hK, rfl⟩)
    refine ⟨.bool true, ?_, ⟨true, rfl, ⟨fun _ => hin, fun _ => rfl⟩⟩, hB.trans (belowK_b (w := w) (Nat.le_refl _) W D _ _ (by simp at hD; omega) hK rfl rfl)⟩
    simp [results, Yba.f7, go_sem, hc5]

theorem sends_calls (sb g : Nat) (hv : Value) (H : List (List ByteArray)) (f : ByteArray) (w : World)
    (hsb : sb < w.heap.size) (c1 : w.cell? ⟨sb, 9, none⟩ = some hv) (hL : Laid w.heap.size w hv g H) :
    Calls Yba.prog 7 #[.pointer (some ⟨sb, 0, none⟩), .string f] w fun e W' => (∃ b : Bool, e = .returned (.bool b) ∧ (b = true ↔ ∃ x : Pl H, (fld x).toList = f.toList)) ∧ Below w.heap.size w W' :=
  (callsIn_wide (n := 3)).1 (sends_in _ 3 trivial trivial trivial rfl (Nat.le_refl _) sb g hv H f w hsb c1 hL)
end Go.Proofs.Ybulkaunw.It
