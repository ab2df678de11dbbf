/-
  What the law of seat b2297a builds in memory, and what the iterator reads of it; the plain law.
-/
import Derived.Test.YbulkaunwSends
import Derived.Handy
import Derived.Lib.SmallJoins
namespace Go.Proofs.Ybulkaunw.It
open Go.RowKit

/-- The cells of the part that stands for the field f. -/
def pcs (f : ByteArray) : List Value := if f.toList.isEmpty then [.string ⟨#[]⟩, .string ⟨#[]⟩, .string ⟨#[]⟩, .string ⟨#[120]⟩, .pointer none] else [.string f, .string ⟨#[]⟩, .string ⟨#[]⟩, .string ⟨#[]⟩, .pointer none]
theorem pcs_n {f : ByteArray} (h : f.toList.isEmpty = false) : pcs f = [.string f, .string ⟨#[]⟩, .string ⟨#[]⟩, .string ⟨#[]⟩, .pointer none] := by simp [pcs, h]
theorem pcs_e {f : ByteArray} (h : f.toList.isEmpty = true) : pcs f = [.string ⟨#[]⟩, .string ⟨#[]⟩, .string ⟨#[]⟩, .string ⟨#[120]⟩, .pointer none] := by simp [pcs, h]

set_option maxHeartbeats 400000 in
theorem part_n (f : ByteArray) (w : World) (hf : f.toList.isEmpty = false) :
    Calls Yba.prog 6 #[.string f] w fun e w' => e = .returned (.agg #[.string f, .string ⟨#[]⟩, .string ⟨#[]⟩, .string ⟨#[]⟩, .pointer none]) ∧ w' = w.alloc (.cells #[.string f, .string ⟨#[]⟩, .string ⟨#[]⟩, .string ⟨#[]⟩, .pointer none] 43) := by
  go_enter Yba.func6, Yba.ntmps6
  go_wp2
  go_returns
  exact ⟨rfl, rfl⟩
set_option maxHeartbeats 400000 in
theorem part_e (f : ByteArray) (w : World) (hf : f.toList.isEmpty = true) :
    Calls Yba.prog 6 #[.string f] w fun e w' => e = .returned (.agg #[.string ⟨#[]⟩, .string ⟨#[]⟩, .string ⟨#[]⟩, .string ⟨#[120]⟩, .pointer none]) ∧ w' = w.alloc (.cells #[.string ⟨#[]⟩, .string ⟨#[]⟩, .string ⟨#[]⟩, .string ⟨#[120]⟩, .pointer none] 43) := by
  go_enter Yba.func6, Yba.ntmps6
  go_wp2
  go_returns
  exact ⟨rfl, rfl⟩
theorem info43 : (Yba.prog.info? 43).map (fun i => (i.zero, i.size, i.bytes)) = some (some (.agg #[.string ⟨#[]⟩, .string ⟨#[]⟩, .string ⟨#[]⟩, .string ⟨#[]⟩, .pointer none]), 5, 72) := by kernel_rfl
theorem info46 : (Yba.prog.info? 46).map (fun i => (i.zero, i.size, i.bytes)) = some (some (.agg #[.string ⟨#[]⟩, .string ⟨#[]⟩, .slice none 0 0]), 3, 56) := by kernel_rfl

def parts (fs : List ByteArray) : List Value := fs.flatMap pcs
theorem pcs_length (f : ByteArray) : (pcs f).length = 5 := by unfold pcs; split <;> rfl
theorem parts_length (fs : List ByteArray) : (parts fs).length = fs.length * 5 := by
  induction fs with
  | nil => rfl
  | cons f fs ih => simp only [parts, List.flatMap_cons, List.length_append, List.length_cons, pcs_length] at ih ⊢; omega
theorem parts_snoc (fs : List ByteArray) (f : ByteArray) : parts (fs ++ [f]) = parts fs ++ pcs f := by simp [parts]
def hdr (v : Value) : List Value := [.string ⟨#[72]⟩, .string ⟨#[72]⟩, v]
def hdrs (vs : List Value) : List Value := vs.flatMap hdr
theorem hdrs_length (vs : List Value) : (hdrs vs).length = vs.length * 3 := by
  induction vs with
  | nil => rfl
  | cons v vs ih => simp only [hdrs, List.flatMap_cons, List.length_append, List.length_cons, hdr, List.length_nil] at ih ⊢; omega
theorem hdrs_snoc (vs : List Value) (v : Value) : hdrs (vs ++ [v]) = hdrs vs ++ hdr v := by simp [hdrs]
/-- Whether a field that is not empty is the one asked for. -/
def anyB (q : ByteArray) (fs : List ByteArray) : Bool := fs.any fun f => !f.toList.isEmpty && (f.toList == q.toList)
theorem anyB_snoc (q : ByteArray) (fs : List ByteArray) (f : ByteArray) : anyB q (fs ++ [f]) = (anyB q fs || (!f.toList.isEmpty && (f.toList == q.toList))) := by simp [anyB]
def wantB (q : ByteArray) (R : List (List ByteArray)) : Bool := R.any (anyB q)
theorem wantB_snoc (q : ByteArray) (R : List (List ByteArray)) (fs : List ByteArray) : wantB q (R ++ [fs]) = (wantB q R || anyB q fs) := by simp [wantB]
theorem take_snoc {α : Type} (l : List α) (k : Nat) (h : k < l.length) : l.take (k + 1) = l.take k ++ [l[k]] := List.take_succ_eq_append_getElem h

/-- The cells of the block that was made last, a block behind another. -/
theorem cells_new2 (W : World) (o : Obj) (cs : List Value) (T : TypeId) : ∀ (t : Nat) (u : Value), cs[t]? = some u → ((W.alloc o).alloc (.cells cs.toArray T)).cell? ((⟨W.heap.size + 1, 0, none⟩ : Addr).add t) = some u := by
  intro t u hu
  have h := World.alloc_heap_new (W.alloc o) (.cells cs.toArray T)
  rw [World.size_alloc] at h
  have ha : ((⟨W.heap.size + 1, 0, none⟩ : Addr).add t) = ⟨W.heap.size + 1, t, none⟩ := by unfold Addr.add; split <;> simp_all
  rw [ha]
  unfold World.cell?
  rw [h]
  simpa using hu
theorem oneCells {cs : List Value} (h : cs.all (·.oneCell') = true) : ∀ u ∈ cs, u.oneCell' = true := fun u hu => List.all_eq_true.1 h u hu

/-- What the walk is told of a []string that came in: its strings, where they lie. -/
def IsStrs (w : World) (a : Option Addr) (ss : List ByteArray) : Prop :=
  ss = [] ∨ ∃ b off, a = some ⟨b, off, none⟩ ∧ ∀ j, (h : j < ss.length) → w.cell? ⟨b, off + j, none⟩ = some (.string ss[j])
def sumLen (R : List (List ByteArray)) : Nat := (R.map List.length).sum
theorem sumLen_take (R : List (List ByteArray)) (k : Nat) (h : k < R.length) : sumLen (R.take (k + 1)) = sumLen (R.take k) + R[k].length := by
  unfold sumLen
  rw [take_snoc R k h]
  simp only [List.map_append, List.sum_append, List.map_cons, List.map_nil, List.sum_cons, List.sum_nil, Nat.add_zero]
theorem len_le_sum (R : List (List ByteArray)) (k : Nat) (h : k < R.length) : R[k].length ≤ sumLen R := by
  have key : ∀ (l : List Nat) (x : Nat), x ∈ l → x ≤ l.sum := by
    intro l
    induction l with
    | nil => intro x hx; cases hx
    | cons y l ih =>
      intro x hx
      rw [List.sum_cons]
      rcases List.mem_cons.1 hx with rfl | hx
      · omega
      · have := ih x hx; omega
  exact key _ _ (List.mem_map.2 ⟨R[k], List.getElem_mem h, rfl⟩)

/-- What the rounds over the rows have built in memory: the headers' slice in the scheme's cell 9, each header's value a slice of parts. -/
def Built (N : Nat) (w wr : World) (R : List (List ByteArray)) (hv : Value) (vs : List Value) : Prop :=
  wr.cell? ⟨N, 9, none⟩ = some hv ∧ wr.frozen? ⟨N, 9, none⟩ = false ∧ N < wr.heap.size ∧ wr.ownsRow (N + 1) 46 3 hv vs.length (hdrs vs) ∧ vs.length = R.length ∧
    (∀ t, (h : t < vs.length) → (h2 : t < R.length) → (∃ g cap, vs[t] = .slice (some ⟨g, 0, none⟩) R[t].length cap) ∧ wr.ownsRow (N + 1) 43 5 vs[t] R[t].length (parts R[t])) ∧ Below N w wr

/-! ### What a round does to the memory that was built -/
theorem ownsRow_later {w w' : World} {base e size n : Nat} {v : Value} {xs : List Value} (h : w.ownsRow base e size v n xs) (hb : Below w.heap.size w w') : w'.ownsRow base e size v n xs := by
  refine ⟨h.1, ?_⟩
  rcases h.2 with h0 | ⟨g, cap, cur, hv, hg, hh, r⟩
  · exact .inl h0
  · refine .inr ⟨g, cap, cur, hv, hg, ?_, r⟩
    rw [hb.block g (Array.getElem?_eq_some_iff.1 hh).1]; exact hh
theorem inner_next {wo wr w2 : World} {o1 o2 : Obj} {fs : List ByteArray} {j g c g2 c2 : Nat} {news : List Value} (hj : j < fs.length) (hnews : news = pcs fs[j]) (hO : wr.ownsRow wo.heap.size 43 5 (.slice (some ⟨g, 0, none⟩) j c) j (parts (fs.take j)))
    (hB : Below wo.heap.size wo wr) (hsz : wo.heap.size < wr.heap.size) (h3 : w2.ownsRow wo.heap.size 43 5 (.slice (some ⟨g2, 0, none⟩) (j + 1) c2) (j + 1) (parts (fs.take j) ++ news))
    (hg : ((wr.alloc o1).alloc o2).grownBy w2 (Value.ownBlock (.slice (some ⟨g, 0, none⟩) j c))) :
    w2.ownsRow wo.heap.size 43 5 (.slice (some ⟨g2, 0, none⟩) (j + 1) c2) (j + 1) (parts (fs.take (j + 1))) ∧ Below wo.heap.size wo w2 ∧ wo.heap.size < w2.heap.size := by
  have hgb : wo.heap.size ≤ g := by
    rcases hO.2 with ⟨h0, _⟩ | ⟨g', cap, cur, hv, hg', _⟩
    · cases h0
    · cases hv; exact hg'
  refine ⟨by rw [take_snoc fs j hj, parts_snoc, ← hnews]; exact h3, ?_, ?_⟩
  · refine ((hB.alloc hB.size o1).alloc (by have := hB.size; simp; omega) o2).grown hg (by have := hB.size; simp; omega) ?_
    intro k hk
    cases hk
    exact hgb
  · have := hg.size
    simp at this
    omega
theorem inner_start {wo w1 : World} (hg : wo.grownBy w1 none) {n : Nat} (h : w1.ownsRow wo.heap.size 43 5 (.slice (some ⟨wo.heap.size, 0, none⟩) 0 n) 0 []) : Below wo.heap.size wo w1 ∧ wo.heap.size < w1.heap.size := by
  refine ⟨(Below.refl _ _).grown hg (Nat.le_refl _) (fun k e => by cases e), ?_⟩
  rcases h.2 with ⟨h0, _⟩ | ⟨g', cap, cur, hv, _, hh, _⟩
  · cases h0
  · cases hv; exact (Array.getElem?_eq_some_iff.1 hh).1
theorem ownsRow_block {w : World} {base e size n : Nat} {v : Value} {xs : List Value} {k : Nat} (h : w.ownsRow base e size v n xs) (hk : v.ownBlock = some k) : ∃ cur, w.heap[k]? = some (.cells cur e (0, 0)) ∧ base ≤ k := by
  rcases h.2 with ⟨rfl, _⟩ | ⟨g', cap, cur, rfl, hg, hh, _⟩
  · cases hk
  · cases hk; exact ⟨cur, hh, hg⟩
/-- A row of the call's own outlives an append to a row of another element type, and a store into an old block. -/
theorem ownsRow_other {w w' : World} {base e e' size size' n n' : Nat} {v v' : Value} {xs xs' : List Value} (hne : e ≠ e') (h : w.ownsRow base e size v n xs) (h' : w.ownsRow base e' size' v' n' xs') (hg : w.grownBy w' v'.ownBlock) : w'.ownsRow base e size v n xs := by
  refine ⟨h.1, ?_⟩
  rcases h.2 with h0 | ⟨g, cap, cur, hv, hb, hh, r⟩
  · exact .inl h0
  · refine .inr ⟨g, cap, cur, hv, hb, ?_, r⟩
    rw [hg.block g (Array.getElem?_eq_some_iff.1 hh).1 ?_]
    · exact hh
    · intro hk
      obtain ⟨cur', hh', _⟩ := ownsRow_block h' hk.symm
      rw [hh] at hh'
      cases hh'
      exact hne rfl
theorem ownsRow_set {w : World} {base e size n : Nat} {v : Value} {xs : List Value} (h : w.ownsRow base e size v n xs) (a : Addr) (u : Value) (ha : a.block < base) : (w.setCell a u).ownsRow base e size v n xs := by
  refine ⟨h.1, ?_⟩
  rcases h.2 with h0 | ⟨g, cap, cur, hv, hb, hh, r⟩
  · exact .inl h0
  · exact .inr ⟨g, cap, cur, hv, hb, by rw [Below.heap_setCell _ _ _ _ (by omega)]; exact hh, r⟩
theorem ownsRow_base {w : World} {base base' e size n : Nat} {v : Value} {xs : List Value} (h : w.ownsRow base e size v n xs) (hb : base' ≤ base) : w.ownsRow base' e size v n xs := Joins.ownsRow_le h hb
theorem ownsRow_new {w : World} {base e size n : Nat} {v : Value} {xs : List Value} (h : w.ownsRow base e size v n xs) (o : Obj) : (w.alloc o).ownsRow base e size v n xs := ownsRow_later h ((Below.refl _ _).alloc (Nat.le_refl _) o)

theorem built_next {N : Nat} {w wo wr w3 : World} {R : List (List ByteArray)} {i : Nat} {hv ps v' : Value} {vs : List Value} {cs : Array Value} {T : TypeId} (hB : Built N w wo (R.take i) hv vs) (hi : i < R.length) (hbel : Below wo.heap.size wo wr)
    (hps : wr.ownsRow wo.heap.size 43 5 ps R[i].length (parts R[i])) (hpf : ∃ g c, ps = .slice (some ⟨g, 0, none⟩) R[i].length c)
    (h3 : w3.ownsRow (N + 1) 46 3 v' (vs.length + 1) (hdrs vs ++ hdr ps)) (hg : (wr.alloc (.cells cs T)).grownBy w3 hv.ownBlock) :
    (w3.cell? ⟨N, 9, none⟩ = some hv ∧ w3.frozen? ⟨N, 9, none⟩ = false) ∧ Built N w (w3.setCell ⟨N, 9, none⟩ v') (R.take (i + 1)) v' (vs ++ [ps]) := by
  obtain ⟨c9, f9, hN, hown, hvl, hrows, hbl⟩ := hB
  have hown' := ownsRow_new (ownsRow_later hown hbel) (.cells cs T)
  have hNr : N < wr.heap.size := Nat.lt_of_lt_of_le hN hbel.size
  have hNb : w3.heap[N]? = wo.heap[N]? := by
    rw [hg.block N (by simp; omega) ?_, Below.heap_alloc _ _ _ hNr, hbel.block N hN]
    intro hk
    obtain ⟨_, _, hge⟩ := ownsRow_block hown' hk.symm
    omega
  have k9 : w3.cell? ⟨N, 9, none⟩ = some hv := by rw [← c9]; simp [World.cell?, hNb]
  have kf : w3.frozen? ⟨N, 9, none⟩ = false := by rw [← f9]; simp [World.frozen?, hNb]
  have hlt : (R.take i).length = i := by rw [List.length_take]; omega
  have hN3 : N < w3.heap.size := by have := hg.size; simp at this; omega
  refine ⟨⟨k9, kf⟩, ?_, by rw [World.frozen?_setCell]; exact kf, by simpa [World.setCell] using hN3, ?_, ?_, ?_, ?_⟩
  · exact World.cell?_setCell_same' _ _ _ (by rw [k9]; rfl)
  · have := ownsRow_set h3 ⟨N, 9, none⟩ v' (Nat.lt_succ_self N)
    rw [hdrs_snoc]
    simpa using this
  · simp only [List.length_append, List.length_cons, List.length_nil, List.length_take]
    rw [hvl, hlt]; omega
  · intro t ht ht2
    have key : ∀ (v : Value) (fs : List ByteArray), wr.ownsRow (N + 1) 43 5 v fs.length (parts fs) → (w3.setCell ⟨N, 9, none⟩ v').ownsRow (N + 1) 43 5 v fs.length (parts fs) := fun v fs h =>
      ownsRow_set (ownsRow_other (by decide) (ownsRow_new h (.cells cs T)) hown' hg) _ _ (Nat.lt_succ_self N)
    by_cases htl : t < vs.length
    · have ht3 : t < (R.take i).length := by rw [← hvl]; exact htl
      obtain ⟨hf, hr⟩ := hrows t htl ht3
      have e1 : (vs ++ [ps])[t] = vs[t] := List.getElem_append_left htl
      have e2 : (R.take (i + 1))[t] = (R.take i)[t] := by simp only [List.getElem_take]
      rw [e1, e2]
      exact ⟨hf, key _ _ (ownsRow_later hr hbel)⟩
    · have hte : t = vs.length := by simp at ht; omega
      subst hte
      have e1 : (vs ++ [ps])[vs.length] = ps := by simp
      have e2 : (R.take (i + 1))[vs.length] = R[i] := by simp only [List.getElem_take, hvl, hlt]
      rw [e1, e2]
      exact ⟨hpf, key _ _ (ownsRow_base hps (by omega))⟩
  · refine Below.setCell (Below.grown ((hbl.trans (hbel.mono (by omega))).alloc ?_ _) hg ?_ ?_) (Nat.le_refl _) _
    · omega
    · simp; omega
    · intro k hk
      obtain ⟨_, _, hge⟩ := ownsRow_block hown' hk
      omega

theorem built_start (w : World) (cs : Array Value) (t : TypeId) (h9 : cs[9]? = some (.slice none 0 0)) : Built w.heap.size w (w.alloc (.cells cs t)) [] (.slice none 0 0) [] := by
  have h := World.alloc_heap_new w (.cells cs t)
  refine ⟨?_, ?_, by simp, ⟨rfl, .inl ⟨rfl, rfl⟩⟩, rfl, fun t ht => absurd ht (by simp), (Below.refl _ _).alloc (Nat.le_refl _) _⟩
  · unfold World.cell?
    rw [h]
    simpa using h9
  · unfold World.frozen?
    rw [h]
    simp

/-! ### What was built, as the iterator reads it -/
/-- The field as its part holds it. -/
def nf (f : ByteArray) : ByteArray := if f.toList.isEmpty then ⟨#[]⟩ else f
theorem pcs_nf (f : ByteArray) : ∃ l, pcs f = [.string (nf f), .string ⟨#[]⟩, .string ⟨#[]⟩, .string l, .pointer none] := by
  unfold pcs nf
  split
  · exact ⟨_, rfl⟩
  · exact ⟨_, rfl⟩
theorem flat_get {α : Type} (f : α → List Value) (k : Nat) (hk : ∀ x, (f x).length = k) : ∀ (l : List α) (j c : Nat) (hj : j < l.length), c < k → (l.flatMap f)[j * k + c]? = (f l[j])[c]? := by
  intro l
  induction l with
  | nil => intro j c hj; exact absurd hj (by simp)
  | cons x l ih =>
    intro j c hj hc
    rw [List.flatMap_cons]
    cases j with
    | zero =>
      rw [Nat.zero_mul, Nat.zero_add, List.getElem?_append_left (by rw [hk]; exact hc)]
      rfl
    | succ j =>
      have e : (j + 1) * k + c = k + (j * k + c) := by rw [Nat.succ_mul]; omega
      rw [e, List.getElem?_append_right (by rw [hk]; omega), hk, Nat.add_sub_cancel_left]
      exact ih j c (by simpa using hj) hc
theorem ownsRow_cell {w : World} {base e size n g cap : Nat} {xs : List Value} (h : w.ownsRow base e size (.slice (some ⟨g, 0, none⟩) n cap) n xs) {o : Nat} {u : Value} (ho : xs[o]? = some u) : w.cell? ⟨g, o, none⟩ = some u ∧ g < w.heap.size := by
  rcases h.2 with ⟨h0, _⟩ | ⟨g', cap', cur, hv, _, hh, _, _, _, ht⟩
  · cases h0
  · cases hv
    refine ⟨?_, (Array.getElem?_eq_some_iff.1 hh).1⟩
    unfold World.cell?
    rw [hh]
    have : cur.toList[o]? = some u := by
      rw [← ht, List.getElem?_take] at ho
      split at ho
      · exact ho
      · cases ho
    simpa using this
theorem ownsRow_lt {w : World} {base e size n g cap : Nat} {xs : List Value} (h : w.ownsRow base e size (.slice (some ⟨g, 0, none⟩) n cap) n xs) : g < w.heap.size := by
  rcases h.2 with ⟨h0, _⟩ | ⟨g', cap', cur, hv, _, hh, _⟩
  · cases h0
  · cases hv; exact (Array.getElem?_eq_some_iff.1 hh).1
theorem row_at {w : World} {base : Nat} {v : Value} {fs : List ByteArray} (hf : ∃ g cap, v = .slice (some ⟨g, 0, none⟩) fs.length cap) (h : w.ownsRow base 43 5 v fs.length (parts fs)) (hl : fs.length ≤ 4096) : RowAt w.heap.size w v (fs.map nf) := by
  obtain ⟨g, cap, rfl⟩ := hf
  refine ⟨g, cap, by simp, ownsRow_lt h, by simpa using hl, fun j hj => ?_⟩
  have hj' : j < fs.length := by simpa using hj
  have e : (fs.map nf)[j] = nf fs[j] := by simp
  rw [e]
  obtain ⟨l, hp⟩ := pcs_nf fs[j]
  have key : ∀ c u, c < 5 → (pcs fs[j])[c]? = some u → w.cell? ⟨g, j * 5 + c, none⟩ = some u := fun c u hc hu =>
    (ownsRow_cell h (o := j * 5 + c) (by rw [parts, flat_get pcs 5 pcs_length fs j c hj' hc]; exact hu)).1
  rw [hp] at key
  exact ⟨key 0 _ (by omega) rfl, key 1 _ (by omega) rfl, key 2 _ (by omega) rfl, ⟨l, key 3 _ (by omega) rfl⟩, key 4 _ (by omega) rfl⟩
theorem hdr_length (v : Value) : (hdr v).length = 3 := rfl
theorem built_laid {N : Nat} {w wr : World} {R : List (List ByteArray)} {hv : Value} {vs : List Value} (hB : Built N w wr R hv vs) (hR : R.length ≤ 1024) (hl : ∀ i, (h : i < R.length) → R[i].length ≤ 4096) : ∃ g, Laid wr.heap.size wr hv g (R.map (List.map nf)) := by
  obtain ⟨c9, f9, hN, hown, hvl, hrows, hbl⟩ := hB
  rcases hown.2 with ⟨rfl, h0⟩ | ⟨g, cap, cur, rfl, _⟩
  · refine ⟨0, .inl ⟨rfl, ?_⟩⟩
    have : R.length = 0 := by omega
    rw [List.eq_nil_of_length_eq_zero this]; rfl
  · refine ⟨g, .inr ⟨cap, by rw [List.length_map, hvl], ownsRow_lt hown, by simpa using hR, fun i hi => ?_⟩⟩
    have hi' : i < R.length := by simpa using hi
    have hiv : i < vs.length := by rw [hvl]; exact hi'
    obtain ⟨hf, hr⟩ := hrows i hiv hi'
    refine ⟨vs[i], (ownsRow_cell hown (o := i * 3 + 2) ?_).1, ?_⟩
    · rw [hdrs, flat_get hdr 3 hdr_length vs i 2 hiv (by omega)]; rfl
    · have e : (R.map (List.map nf))[i] = R[i].map nf := by simp
      rw [e]
      exact row_at hf hr (hl i hi')
/-- The plain law: the iterator finds what was asked for just where a row holds it. -/
theorem want_iff (q : ByteArray) (R : List (List ByteArray)) : (∃ x : Pl (R.map (List.map nf)), (fld x).toList = q.toList) ↔ wantB q R = true := by
  constructor
  · rintro ⟨⟨⟨i, j⟩, h1, h2, h3⟩, hx⟩
    dsimp only [fld] at h1 h2 h3 hx
    have hi : i < R.length := by simpa using h1
    have hj : j < R[i].length := by simpa using h2
    have e : (R.map (List.map nf))[i][j] = nf R[i][j] := by simp
    rw [e] at h3 hx
    have hem : R[i][j].toList.isEmpty = false := by
      cases hc : R[i][j].toList.isEmpty with
      | false => rfl
      | true => simp [nf, hc] at h3
    have en : nf R[i][j] = R[i][j] := by simp [nf, hem]
    rw [en] at hx
    unfold wantB
    rw [List.any_eq_true]
    refine ⟨R[i], List.getElem_mem hi, ?_⟩
    unfold anyB
    rw [List.any_eq_true]
    exact ⟨R[i][j], List.getElem_mem hj, by rw [hem, hx]; simp⟩
  · intro h
    unfold wantB at h
    rw [List.any_eq_true] at h
    obtain ⟨fs, hfs, h⟩ := h
    unfold anyB at h
    rw [List.any_eq_true] at h
    obtain ⟨f, hf, h⟩ := h
    obtain ⟨i, hi, rfl⟩ := List.getElem_of_mem hfs
    obtain ⟨j, hj, rfl⟩ := List.getElem_of_mem hf
    simp only [Bool.and_eq_true, Bool.not_eq_true'] at h
    have en : nf R[i][j] = R[i][j] := by unfold nf; rw [if_neg (by rw [h.1]; simp)]
    have e : (R.map (List.map nf))[i]'(by simpa using hi) = R[i].map nf := by simp
    refine ⟨⟨(i, j), by simpa using hi, by simpa using hj, ?_⟩, ?_⟩
    · simp only [List.getElem_map, en]; exact h.1
    · simp only [fld, List.getElem_map, en]; exact eq_of_beq h.2
theorem want_empty (q : ByteArray) (R : List (List ByteArray)) (hq : q.toList.isEmpty = true) : wantB q R = false := by
  cases h : wantB q R with
  | false => rfl
  | true =>
    obtain ⟨⟨⟨i, j⟩, h1, h2, h3⟩, hx⟩ := (want_iff q R).2 h
    dsimp only [fld] at h3 hx
    rw [hx, hq] at h3; cases h3
end Go.Proofs.Ybulkaunw.It
