/-
  '(*Scheme).carried' and its closure: what the iterator yields, whatever the loop's body.
-/
import Derived.Test.YbulkaunwRows
import Derived.RangeFuncNested
import Derived.RangeFuncBound
import Derived.RangeFuncCalls
import Derived.RangeFuncLeaves
import Derived.Shelf.Abstract
import Derived.Shelf.RegionOpen
import Derived.WalkKit
import Derived.OwnWalkIn
import Derived.TacticsInMore
import Derived.LoopNIn
import Derived.LoopIn
import Derived.Outline
namespace Go.Proofs.Ybulkaunw.It
open Go.RowKit Go.Shelf
attribute [local go_sem] Oper.semAt_some

def PartAt (W : World) (g o : Nat) (f : ByteArray) : Prop :=
  W.cell? ⟨g, o, none⟩ = some (.string f) ∧ W.cell? ⟨g, o + 1, none⟩ = some (.string ⟨#[]⟩) ∧ W.cell? ⟨g, o + 2, none⟩ = some (.string ⟨#[]⟩) ∧ (∃ l, W.cell? ⟨g, o + 3, none⟩ = some (.string l)) ∧ W.cell? ⟨g, o + 4, none⟩ = some (.pointer none)
def RowAt (n₀ : Nat) (W : World) (v : Value) (fs : List ByteArray) : Prop :=
  ∃ g cap, v = .slice (some ⟨g, 0, none⟩) fs.length cap ∧ g < n₀ ∧ fs.length ≤ 4096 ∧ ∀ j, (h : j < fs.length) → PartAt W g (j * 5) fs[j]
def HdrsAt (n₀ : Nat) (W : World) (g : Nat) (H : List (List ByteArray)) : Prop :=
  ∀ i, (h : i < H.length) → ∃ v, W.cell? ⟨g, i * 3 + 2, none⟩ = some v ∧ RowAt n₀ W v H[i]
/-- A place of a field that is carried. -/
abbrev Pl (H : List (List ByteArray)) : Type := { p : Nat × Nat // ∃ h : p.1 < H.length, ∃ h2 : p.2 < H[p.1].length, H[p.1][p.2].toList.isEmpty = false }
def encs (g : Nat) {H : List (List ByteArray)} (x : Pl H) : Array Value := #[.pointer (some ⟨g, x.1.1 * 3, none⟩), .int .i64 (x.1.2 : Int)]

theorem cover_skip {H : List (List ByteArray)} {i j : Nat} {pre : List (Pl H)} (hi : i < H.length) (hj : j < H[i].length) (hem : H[i][j].toList.isEmpty = true) (hA : ∀ x : Pl H, (x.1.1 < i ∨ x.1.1 = i ∧ x.1.2 < j) → x ∈ pre) :
    ∀ x : Pl H, (x.1.1 < i ∨ x.1.1 = i ∧ x.1.2 < j + 1) → x ∈ pre := by
  rintro ⟨⟨a, b⟩, h1, h2, h3⟩ hx
  refine hA _ ?_
  dsimp only at hx h1 h2 h3 ⊢
  by_cases e : a = i ∧ b = j
  · obtain ⟨rfl, rfl⟩ := e
    rw [hem] at h3; cases h3
  · omega
theorem cover_take {H : List (List ByteArray)} {i j : Nat} {pre : List (Pl H)} (x0 : Pl H) (h0 : x0.1 = (i, j)) (hA : ∀ x : Pl H, (x.1.1 < i ∨ x.1.1 = i ∧ x.1.2 < j) → x ∈ pre) :
    ∀ x : Pl H, (x.1.1 < i ∨ x.1.1 = i ∧ x.1.2 < j + 1) → x ∈ pre ++ [x0] := by
  intro x hx
  by_cases e : x.1.1 = i ∧ x.1.2 = j
  · have : x = x0 := Subtype.ext (by rw [h0]; exact Prod.ext e.1 e.2)
    rw [this]; simp
  · exact List.mem_append.2 (.inl (hA x (by omega)))

set_option maxRecDepth 100000 in
set_option maxHeartbeats 2000000 in
theorem carried1_in (F : Fence) (n : Nat) (h9 : F.fn 9) (hro : F.round = none) (hn : 1 ≤ n) (l Bs sb n₀ g cap : Nat) (H : List (List ByteArray)) (hH : H.length ≤ 1024) (hg : g < n₀) (hBs : Bs < n₀) (hsb : sb < n₀) (J Jx : List (Pl H) → World → Prop)
    (hJa : ∀ s W o, J s W → J s (W.alloc o))
    (hY : ∀ pre x W, J pre W → pre.length < 4194304 → YieldAt F (n - 1) Yba.prog l (encs g x) W fun e W' =>
      (e = .returned (.bool true) ∧ J (pre ++ [x]) W' ∧ Below n₀ W W') ∨ (e = .returned (.bool false) ∧ Jx (pre ++ [x]) W'))
    (W : World) (hWn : n₀ ≤ W.heap.size) (c0 : W.cell? ⟨Bs, 0, none⟩ = some (.pointer (some ⟨sb, 0, none⟩))) (c1 : W.cell? ⟨sb, 9, none⟩ = some (.slice (some ⟨g, 0, none⟩) H.length cap)) (hh : HdrsAt n₀ W g H) (h0 : J [] W) :
    CallsIn F n Yba.prog 9 #[.func (.yield l) #[] #[], .pointer (some ⟨Bs, 0, none⟩)] W fun e W' => (∃ v, e = .returned v) ∧
      ((∃ ys : List (Pl H), (∀ x, x ∈ ys) ∧ J ys W') ∨ (∃ pre, Jx pre W')) := by
  refine callsIn_of_wp Yba.func9 rfl h9 ?_ hro
  simp only [Yba.ntmps9, List.size_toArray, List.length_cons, List.length_nil, Nat.reduceAdd, Nat.reduceSub, Array.replicate_succ, Array.replicate_zero, List.push_toArray, List.append_toArray, List.nil_append, List.cons_append]
  gi_wp2
  gi_loopw [12] (fun t wr => ∃ (i : Nat) (pre : List (Pl H)), i ≤ H.length ∧ t = .int .i64 i ∧ J pre wr ∧ Below n₀ W wr ∧ pre.length ≤ i * 4096 ∧ (∀ x : Pl H, x.1.1 < i → x ∈ pre))
    (fun t _ => H.length - (intOf t).toNat)
  case atStart => exact ⟨0, [], Nat.zero_le _, rfl, h0, Below.refl _ _, Nat.zero_le _, fun x hx => by omega⟩
  case round =>
    obtain ⟨i, pre, hi, rfl, hJs, hnx, hlen, hall⟩ := hrel
    have d0 : wr.cell? ⟨Bs, 0, none⟩ = some (.pointer (some ⟨sb, 0, none⟩)) := (hnx.cell (p := ⟨Bs, 0, none⟩) hBs).trans c0
    have d1 : wr.cell? ⟨sb, 9, none⟩ = some (.slice (some ⟨g, 0, none⟩) H.length cap) := (hnx.cell (p := ⟨sb, 9, none⟩) hsb).trans c1
    by_cases hlt : i < H.length
    · obtain ⟨v, hv, gi, ci, rfl, hgi, hfl, hpart⟩ := hh i hlt
      have d2 : wr.cell? ⟨g, i * 3 + 2, none⟩ = some (.slice (some ⟨gi, 0, none⟩) H[i].length ci) := (hnx.cell (p := ⟨g, i * 3 + 2, none⟩) hg).trans hv
      have HJ : Hid (J pre wr) := hJs
      have HA : Hid (∀ x : Pl H, x.1.1 < i → x ∈ pre) := hall
      have HN : Hid (Below n₀ W wr) := hnx
      have HP : Hid (∀ j, (h : j < H[i].length) → PartAt W gi (j * 5) H[i][j]) := hpart
      have HH : Hid (HdrsAt n₀ W g H) := hh
      clear hJs hall hnx hv hpart hh
      gi_wp2
      gi_loopw [26] (fun t wq => ∃ (j : Nat) (pre : List (Pl H)), j ≤ H[i].length ∧ t = .int .i64 j ∧ J pre wq ∧ Below n₀ W wq ∧ pre.length ≤ i * 4096 + j ∧ (∀ x : Pl H, (x.1.1 < i ∨ x.1.1 = i ∧ x.1.2 < j) → x ∈ pre))
        (fun t _ => H[i].length - (intOf t).toNat)
      case atStart => exact ⟨0, pre, Nat.zero_le _, rfl, HJ.out, HN.out, by omega, fun x hx => HA.out x (by omega)⟩
      case round =>
        obtain ⟨j, pre1, hj, rfl, hJ1, hn1, hlen1, hall1⟩ := hrel
        by_cases hjlt : j < H[i].length
        · obtain ⟨p0, p1, p2, ⟨lt, p3⟩, p4⟩ := HP.out j hjlt
          have e0 := (hn1.cell (p := ⟨gi, j * 5, none⟩) hgi).trans p0
          have e1 := (hn1.cell (p := ⟨gi, j * 5 + 1, none⟩) hgi).trans p1
          have e2 := (hn1.cell (p := ⟨gi, j * 5 + 2, none⟩) hgi).trans p2
          have e3 := (hn1.cell (p := ⟨gi, j * 5 + 3, none⟩) hgi).trans p3
          have e4 := (hn1.cell (p := ⟨gi, j * 5 + 4, none⟩) hgi).trans p4
          clear p0 p1 p2 p3 p4
          have HJ1 : Hid (J pre1 wr) := hJ1
          have HN1 : Hid (Below n₀ W wr) := hn1
          have HA1 : Hid (∀ x : Pl H, (x.1.1 < i ∨ x.1.1 = i ∧ x.1.2 < j) → x ∈ pre1) := hall1
          clear hJ1 hn1 hall1
          by_cases hem : H[i][j].toList.isEmpty = true
          · gi_wp2
            refine ⟨fun _ h => (by cases h), ?_⟩
            gi_wp2
            go_roundw
            case rel => exact ⟨j + 1, pre1, by omega, by go_num, hJa _ _ _ HJ1.out, HN1.out.alloc (Nat.le_trans hWn HN1.out.size) _, by omega, cover_skip hlt hjlt hem HA1.out⟩
            case measure => simp [intOf]; omega
          · have hem' : H[i][j].toList.isEmpty = false := by simpa using hem
            obtain ⟨fn, tmps, assign, body, hy, hR⟩ := hY pre1 (⟨(i, j), hlt, hjlt, hem'⟩ : Pl H) (wr.alloc (.cells #[.string H[i][j], .string ⟨#[]⟩, .string ⟨#[]⟩, .string lt, .pointer none] 43)) (hJa _ _ _ HJ1.out) (by omega)
            dsimp only [encs] at hy
            clear hem
            gi_wp2
            refine hR.mono ?_
            rintro e W3 (⟨rfl, hJ3, hk3⟩ | ⟨rfl, hJx3⟩)
            · gi_wp2
              go_roundw
              case rel => exact ⟨j + 1, pre1 ++ [⟨(i, j), hlt, hjlt, hem'⟩], by omega, by go_num, hJ3, (HN1.out.alloc (Nat.le_trans hWn HN1.out.size) _).trans hk3, by simp; omega, cover_take _ rfl HA1.out⟩
              case measure => simp [intOf]; omega
            · gi_wp2
              refine bodyPost_ret (results_none rfl _ _ _) rfl ?_
              exact ⟨⟨_, rfl⟩, .inr ⟨_, hJx3⟩⟩
        · have HJ1 : Hid (J pre1 wr) := hJ1
          have HN1 : Hid (Below n₀ W wr) := hn1
          have HA1 : Hid (∀ x : Pl H, (x.1.1 < i ∨ x.1.1 = i ∧ x.1.2 < j) → x ∈ pre1) := hall1
          clear hJ1 hn1 hall1
          gi_wp2
          go_roundw
          case rel =>
            refine ⟨i + 1, pre1, by omega, by go_num, HJ1.out, HN1.out, by omega, ?_⟩
            rintro ⟨⟨a, b⟩, h1, h2, h3⟩ hx
            refine HA1.out _ ?_
            dsimp only at hx h1 h2 h3 ⊢
            by_cases e : a = i
            · subst e; exact .inr ⟨rfl, by omega⟩
            · exact .inl (by omega)
          case measure => simp [intOf]; omega
    · have HJ : Hid (J pre wr) := hJs
      have HA : Hid (∀ x : Pl H, x.1.1 < i → x ∈ pre) := hall
      clear hJs hall hh hnx
      gi_wp2
      go_end0
      refine ⟨⟨_, rfl⟩, .inl ⟨pre, ?_, HJ.out⟩⟩
      rintro ⟨⟨a, b⟩, h1, h2, h3⟩
      exact HA.out _ (by dsimp only at h1 ⊢; omega)

set_option maxRecDepth 100000 in
set_option maxHeartbeats 1000000 in
theorem carried1_nil_in (F : Fence) (n : Nat) (h9 : F.fn 9) (hro : F.round = none) (l Bs sb : Nat) {β : Type} (J : List β → World → Prop) (W : World) (c0 : W.cell? ⟨Bs, 0, none⟩ = some (.pointer (some ⟨sb, 0, none⟩))) (c1 : W.cell? ⟨sb, 9, none⟩ = some (.slice none 0 0)) (h0 : J [] W) :
    CallsIn F n Yba.prog 9 #[.func (.yield l) #[] #[], .pointer (some ⟨Bs, 0, none⟩)] W fun e W' => (∃ v, e = .returned v) ∧ J [] W' := by
  refine callsIn_of_wp Yba.func9 rfl h9 ?_ hro
  simp only [Yba.ntmps9, List.size_toArray, List.length_cons, List.length_nil, Nat.reduceAdd, Nat.reduceSub, Array.replicate_succ, Array.replicate_zero, List.push_toArray, List.append_toArray, List.nil_append, List.cons_append]
  gi_wp2
  gi_loopw [12] (fun i wr => i = .int .i64 0 ∧ J [] wr) (fun _ _ => 0)
  case atStart => exact ⟨rfl, h0⟩
  case round =>
    obtain ⟨rfl, hJs⟩ := hrel
    gi_wp2
    go_end0
    exact ⟨⟨_, rfl⟩, hJs⟩

set_option maxHeartbeats 1000000 in
theorem carried_in (F : Fence) (n : Nat) (h8 : F.fn 8) (hro : F.round = none) (p : Option Addr) (w : World) :
    CallsIn F n Yba.prog 8 #[.pointer p] w fun e w' => e = .returned (.func (.func 9) #[] #[.pointer (some ⟨w.heap.size, 0, none⟩)]) ∧ w' = w.alloc (.cells #[.pointer p] 26) := by
  refine callsIn_of_wp Yba.func8 rfl h8 ?_ hro
  simp only [Yba.ntmps8, List.size_toArray, List.length_cons, List.length_nil, Nat.reduceAdd, Nat.reduceSub, Array.replicate_succ, Array.replicate_zero, List.push_toArray, List.append_toArray, List.nil_append, List.cons_append]
  gi_wp2
  go_ret
  exact ⟨rfl, rfl⟩

theorem HdrsAt.below {n₀ : Nat} {A B : World} (h : Below n₀ A B) {g : Nat} (hg : g < n₀) {H : List (List ByteArray)} (hh : HdrsAt n₀ A g H) : HdrsAt n₀ B g H := by
  intro i hi
  obtain ⟨v, hv, gi, ci, rfl, hgi, hfl, hp⟩ := hh i hi
  refine ⟨_, (h.cell (p := ⟨g, i * 3 + 2, none⟩) hg).trans hv, gi, ci, rfl, hgi, hfl, fun j hj => ?_⟩
  obtain ⟨p0, p1, p2, ⟨lt, p3⟩, p4⟩ := hp j hj
  exact ⟨(h.cell (p := ⟨gi, j * 5, none⟩) hgi).trans p0, (h.cell (p := ⟨gi, j * 5 + 1, none⟩) hgi).trans p1, (h.cell (p := ⟨gi, j * 5 + 2, none⟩) hgi).trans p2, ⟨lt, (h.cell (p := ⟨gi, j * 5 + 3, none⟩) hgi).trans p3⟩, (h.cell (p := ⟨gi, j * 5 + 4, none⟩) hgi).trans p4⟩

/-- The headers lie in memory: the value of the field 'headers', and what it holds. -/
def Laid (n₀ : Nat) (W : World) (hv : Value) (g : Nat) (H : List (List ByteArray)) : Prop :=
  (hv = .slice none 0 0 ∧ H = []) ∨ ∃ cap, hv = .slice (some ⟨g, 0, none⟩) H.length cap ∧ g < n₀ ∧ H.length ≤ 1024 ∧ HdrsAt n₀ W g H

theorem carried_stops (F : Fence) (n : Nat) (h9 : F.fn 9) (hro : F.round = none) (hn : 1 ≤ n) (Bs sb n₀ g : Nat) (hv : Value) (H : List (List ByteArray)) (w : World) (hBs : Bs < n₀) (hsb : sb < n₀) (hn₀ : n₀ ≤ w.heap.size)
    (c0 : w.cell? ⟨Bs, 0, none⟩ = some (.pointer (some ⟨sb, 0, none⟩))) (c1 : w.cell? ⟨sb, 9, none⟩ = some hv) (hL : Laid n₀ w hv g H) :
    SeqStopsK F n Yba.prog 9 #[.pointer (some ⟨Bs, 0, none⟩)] (fun x : Pl H => encs g x) (Below n₀) (fun ys => ∀ x, x ∈ ys) (fun _ => True) 4194304 w := fun l J Jx W hW hJ _ hY h0 => by
  have hW' := hW.mono hn₀
  have c0' := (hW'.cell (p := ⟨Bs, 0, none⟩) hBs).trans c0
  have c1' := (hW'.cell (p := ⟨sb, 9, none⟩) hsb).trans c1
  rcases hL with ⟨rfl, rfl⟩ | ⟨cap, rfl, hg, hlen, hh⟩
  · refine (carried1_nil_in F n h9 hro l Bs sb J W c0' c1' h0).mono fun e W' ⟨he, hj⟩ => ⟨he, .inl ⟨[], ?_, hj⟩⟩
    rintro ⟨⟨a, b⟩, h1, _⟩
    exact absurd h1 (by simp)
  · refine (carried1_in F n h9 hro hn l Bs sb n₀ g cap H hlen hg hBs hsb J Jx (fun s W o hs => hJ s W _ none hs (World.grownBy_alloc W o none) (fun r e => by cases e)) hY W (Nat.le_trans hn₀ hW.size) c0' c1' (hh.below hW' hg) h0).mono ?_
    rintro e W' ⟨he, ⟨ys, hy, hj⟩ | ⟨pre, hj⟩⟩
    · exact ⟨he, .inl ⟨ys, hy, hj⟩⟩
    · exact ⟨he, .inr ⟨pre, trivial, hj⟩⟩
end Go.Proofs.Ybulkaunw.It
