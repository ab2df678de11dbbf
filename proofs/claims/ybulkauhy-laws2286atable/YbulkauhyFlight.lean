/-
  'agent.flight': the plain functions (what 'answered' makes of a flight), and what a call that writes one block leaves of the world ('Kept').
-/
import Derived.Test.YbulkauhyAid
import Derived.BigRegion
import Derived.RegionTactic
import Derived.Handy
import Derived.Lib.SmallJoins
namespace Go.Proofs.Ybulkauhy.Fl
open Go.ChangeShapes Go.WideShapes Go.ChangeAt Go.RowKit

/-! ### Plain functions -/
/-- The least round trip behind an answer that took r. -/
def nLst (lst r : Int) : Int := if lst = 0 ∨ r < lst then (if r < 1 then 1 else r) else lst
/-- The limit; l: the new least. -/
def nLim (lim most slow cnt l r : Int) : Int :=
  if most ≤ lim then lim else if wrap64 (2 * l) < r then lim else if lim < slow then wrap64 (lim + 1) else if lim ≤ wrap64 (cnt + 1) then wrap64 (lim + 1) else lim
def nCnt (lim most slow cnt l r : Int) : Int :=
  if most ≤ lim then cnt else if wrap64 (2 * l) < r then cnt else if lim < slow then cnt else if lim ≤ wrap64 (cnt + 1) then 0 else wrap64 (cnt + 1)

theorem nLst_1 {lst r : Int} (h : lst = 0) (h1 : r < 1) : nLst lst r = 1 := by simp [nLst, h, h1]
theorem nLst_2 {lst r : Int} (h : lst = 0) (h1 : ¬ r < 1) : nLst lst r = r := by simp [nLst, h]; omega
theorem nLst_3 {lst r : Int} (h : r < lst) (h1 : r < 1) : nLst lst r = 1 := by simp [nLst, h, h1]
theorem nLst_4 {lst r : Int} (h : r < lst) (h1 : ¬ r < 1) : nLst lst r = r := by simp [nLst, h]; omega
theorem nLst_5 {lst r : Int} (h0 : ¬ lst = 0) (h : ¬ r < lst) : nLst lst r = lst := by simp [nLst, h0, h]

/-! ### A world of which one block may have turned -/
structure Kept (b : Nat) (w w' : World) : Prop where
  os : w'.os = w.os
  output : w'.output = w.output
  size : w.heap.size ≤ w'.heap.size
  block : ∀ k, k < w.heap.size → k ≠ b → w'.heap[k]? = w.heap[k]?
  frozen : ∀ a, w'.frozen? a = w.frozen? a

theorem Kept.refl (b : Nat) (w : World) : Kept b w w := ⟨rfl, rfl, Nat.le_refl _, fun _ _ _ => rfl, fun _ => rfl⟩
theorem Kept.drew {b : Nat} {w w' : World} (h : Kept b w w') : Kept b w w'.drew := ⟨h.os, h.output, h.size, h.block, h.frozen⟩
theorem Kept.drewN {b : Nat} {w w' : World} (h : Kept b w w') (n : Nat) : Kept b w (w'.drewN n) := ⟨h.os, h.output, h.size, h.block, h.frozen⟩
theorem Kept.alloc {b : Nat} {w w' : World} (h : Kept b w w') (c : Array Value) (t : TypeId) : Kept b w (w'.alloc (.cells c t)) :=
  ⟨h.os, h.output, Nat.le_trans h.size (by show w'.heap.size ≤ (w'.heap.push _).size; simp), fun k hk hb => (Below.heap_alloc _ _ _ (Nat.lt_of_lt_of_le hk h.size)).trans (h.block k hk hb), fun a => (frozen?_alloc_cells _ _ _ a).trans (h.frozen a)⟩
theorem Kept.setCell {b : Nat} {w w' : World} (h : Kept b w w') (a : Addr) (v : Value) (ha : a.block = b ∨ w.heap.size ≤ a.block) : Kept b w (w'.setCell a v) :=
  ⟨h.os, h.output, by simpa [World.setCell] using h.size, fun k hk hb => (Below.heap_setCell _ _ _ _ (by omega)).trans (h.block k hk hb), fun x => (World.frozen?_setCell _ _ _ _).trans (h.frozen x)⟩
theorem Kept.setIn {b : Nat} {w w' : World} (h : Kept b w w') {i : Nat} {v : Value} : Kept b w (w'.setCell ⟨b, i, none⟩ v) := h.setCell _ _ (Or.inl rfl)
theorem Kept.setNew {b : Nat} {w w' : World} (h : Kept b w w') {k i : Nat} {v : Value} (hk : w.heap.size ≤ k) : Kept b w (w'.setCell ⟨k, i, none⟩ v) := h.setCell _ _ (Or.inr hk)
theorem Kept.trans {b : Nat} {w w' w'' : World} (h : Kept b w w') (k : Kept b w' w'') : Kept b w w'' :=
  ⟨k.os.trans h.os, k.output.trans h.output, Nat.le_trans h.size k.size, fun i hi hb => (k.block i (Nat.lt_of_lt_of_le hi h.size) hb).trans (h.block i hi hb), fun a => (k.frozen a).trans (h.frozen a)⟩
theorem Kept.grown {W w w' : World} {b : Nat} (g : Grown W w) (h : Kept b w w') (hb : W.heap.size ≤ b) : Grown W w' := by
  obtain ⟨⟨h1, h2, h3⟩, hf, hs⟩ := g
  refine ⟨⟨h.os.trans h1, h.output.trans h2, fun i hi => ?_⟩, fun x => (h.frozen x).trans (hf x), Nat.le_trans hs h.size⟩
  rw [h.block i (Nat.lt_of_lt_of_le hi hs) (by omega)]
  exact h3 i hi

/-! ### The flight's block -/
theorem facts {w : World} {b : Nat} {t : TypeId} {c0 c1 c2 c3 c4 c5 : Value} (hb : w.heap[b]? = some (.cells #[c0, c1, c2, c3, c4, c5] t)) :
    b < w.heap.size ∧ w.cell? ⟨b, 0, none⟩ = some c0 ∧ w.cell? ⟨b, 1, none⟩ = some c1 ∧ w.cell? ⟨b, 2, none⟩ = some c2 ∧ w.cell? ⟨b, 3, none⟩ = some c3 ∧ w.cell? ⟨b, 4, none⟩ = some c4 ∧ w.cell? ⟨b, 5, none⟩ = some c5 ∧ ∀ i, w.frozen? ⟨b, i, none⟩ = false := by
  have hl : b < w.heap.size := by
    rcases Nat.lt_or_ge b w.heap.size with h' | h'
    · exact h'
    · rw [Array.getElem?_eq_none h'] at hb; cases hb
  exact ⟨hl, by simp [World.cell?, hb], by simp [World.cell?, hb], by simp [World.cell?, hb], by simp [World.cell?, hb], by simp [World.cell?, hb], by simp [World.cell?, hb], fun i => by simp [World.frozen?, hb]⟩
theorem blk_drewN {w : World} {b n : Nat} {o : Obj} (h : w.heap[b]? = some o) : (w.drewN n).heap[b]? = some o := h
theorem blk_drew {w : World} {b : Nat} {o : Obj} (h : w.heap[b]? = some o) : w.drew.heap[b]? = some o := h
theorem blk_alloc {w : World} {b : Nat} {o o' : Obj} (h : w.heap[b]? = some o) : (w.alloc o').heap[b]? = some o := by
  rcases Nat.lt_or_ge b w.heap.size with h' | h'
  · rw [Below.heap_alloc _ _ _ h']; exact h
  · rw [Array.getElem?_eq_none h'] at h; cases h
theorem blk_set {w : World} {b i : Nat} {cs : Array Value} {t : TypeId} {v : Value} (h : w.heap[b]? = some (.cells cs t)) : (w.setCell ⟨b, i, none⟩ v).heap[b]? = some (.cells (cs.setIfInBounds i v) t) := Joins.block_setCell h v

/-- What 'answered' leaves: the block holds 'cs', all else is as it was. -/
def Left (b : Nat) (cs : Array Value) (w w' : World) : Prop := (∃ c, w'.heap[b]? = some (.cells c 36) ∧ c = cs) ∧ Kept b w w'
theorem left_mk {b : Nat} {c cs : Array Value} {w w' : World} (h : w'.heap[b]? = some (.cells c 36)) (e : c = cs) (k : Kept b w w') : Left b cs w w' := ⟨⟨c, h, e⟩, k⟩
end Go.Proofs.Ybulkauhy.Fl
