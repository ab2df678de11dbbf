/-
  The walk of 'countersign.LawS2297AModel'.
-/
import Derived.Test.YbulkaunwBuild
import Derived.Outline
namespace Go.Proofs.Ybulkaunw.It
open Go.RowKit

theorem cells_new1 (W : World) (cs : List Value) (T : TypeId) : ∀ (t : Nat) (u : Value), cs[t]? = some u → (W.alloc (.cells cs.toArray T)).cell? ((⟨W.heap.size, 0, none⟩ : Addr).add t) = some u := by
  intro t u hu
  have h := World.alloc_heap_new W (.cells cs.toArray T)
  have ha : ((⟨W.heap.size, 0, none⟩ : Addr).add t) = ⟨W.heap.size, t, none⟩ := by unfold Addr.add; split <;> simp_all
  rw [ha]
  unfold World.cell?
  rw [h]
  simpa using hu

/-- 'zzs2297afield'. -/
def fldOf (k : Int) : ByteArray :=
  if k % 6 = 0 then ⟨#[]⟩ else if k % 6 = 1 then ⟨#[107, 101, 121, 45, 105, 100]⟩ else if k % 6 = 2 then ⟨#[110, 111, 110, 99, 101]⟩ else if k % 6 = 3 then ⟨#[116, 105, 109, 101, 115, 116, 97, 109, 112]⟩
  else if k % 6 = 4 then ⟨#[112, 117, 98, 108, 105, 99, 45, 107, 101, 121]⟩ else ⟨#[98, 111, 100, 121]⟩
set_option maxHeartbeats 400000 in
theorem field_0 (k : Int) (w : World) (h0 : 0 ≤ k) (h1 : k ≤ 255) (hk : k % 6 = 0) : Calls Yba.prog 5 #[.int .u8 k] w fun e w' => e = .returned (.string ⟨#[]⟩) ∧ w' = w := by
  go_enter Yba.func5, Yba.ntmps5
  go_wp2
  go_ret
  exact ⟨rfl, rfl⟩
set_option maxHeartbeats 400000 in
theorem field_1 (k : Int) (w : World) (h0 : 0 ≤ k) (h1 : k ≤ 255) (hk : k % 6 = 1) : Calls Yba.prog 5 #[.int .u8 k] w fun e w' => e = .returned (.string ⟨#[107, 101, 121, 45, 105, 100]⟩) ∧ w' = w := by
  go_enter Yba.func5, Yba.ntmps5
  go_wp2
  go_ret
  exact ⟨rfl, rfl⟩
set_option maxHeartbeats 400000 in
theorem field_2 (k : Int) (w : World) (h0 : 0 ≤ k) (h1 : k ≤ 255) (hk : k % 6 = 2) : Calls Yba.prog 5 #[.int .u8 k] w fun e w' => e = .returned (.string ⟨#[110, 111, 110, 99, 101]⟩) ∧ w' = w := by
  go_enter Yba.func5, Yba.ntmps5
  go_wp2
  go_ret
  exact ⟨rfl, rfl⟩
set_option maxHeartbeats 400000 in
theorem field_3 (k : Int) (w : World) (h0 : 0 ≤ k) (h1 : k ≤ 255) (hk : k % 6 = 3) : Calls Yba.prog 5 #[.int .u8 k] w fun e w' => e = .returned (.string ⟨#[116, 105, 109, 101, 115, 116, 97, 109, 112]⟩) ∧ w' = w := by
  go_enter Yba.func5, Yba.ntmps5
  go_wp2
  go_ret
  exact ⟨rfl, rfl⟩
set_option maxHeartbeats 400000 in
theorem field_4 (k : Int) (w : World) (h0 : 0 ≤ k) (h1 : k ≤ 255) (hk : k % 6 = 4) : Calls Yba.prog 5 #[.int .u8 k] w fun e w' => e = .returned (.string ⟨#[112, 117, 98, 108, 105, 99, 45, 107, 101, 121]⟩) ∧ w' = w := by
  go_enter Yba.func5, Yba.ntmps5
  go_wp2
  go_ret
  exact ⟨rfl, rfl⟩
set_option maxHeartbeats 400000 in
theorem field_5 (k : Int) (w : World) (h0 : 0 ≤ k) (h1 : k ≤ 255) (hk : k % 6 = 5) : Calls Yba.prog 5 #[.int .u8 k] w fun e w' => e = .returned (.string ⟨#[98, 111, 100, 121]⟩) ∧ w' = w := by
  go_enter Yba.func5, Yba.ntmps5
  go_wp2
  go_ret
  exact ⟨rfl, rfl⟩
theorem field_is (k : Int) (f : ByteArray) (hf : fldOf k = f) (w : World) (h0 : 0 ≤ k) (h1 : k ≤ 255) : Calls Yba.prog 5 #[.int .u8 k] w fun e w' => e = .returned (.string f) ∧ w' = w := by
  subst hf
  have h6 : k % 6 = 0 ∨ k % 6 = 1 ∨ k % 6 = 2 ∨ k % 6 = 3 ∨ k % 6 = 4 ∨ k % 6 = 5 := by omega
  unfold fldOf
  rcases h6 with h | h | h | h | h | h
  · simp only [h]; exact field_0 k w h0 h1 h
  · simp only [h]; exact field_1 k w h0 h1 h
  · simp only [h]; exact field_2 k w h0 h1 h
  · simp only [h]; exact field_3 k w h0 h1 h
  · simp only [h]; exact field_4 k w h0 h1 h
  · simp only [h]; exact field_5 k w h0 h1 h

/-- What the walk is told of a []uint8 that came in, by the fields that its numbers stand for. -/
def IsInts (w : World) (a : Option Addr) (fs : List ByteArray) : Prop :=
  fs = [] ∨ ∃ b off, a = some ⟨b, off, none⟩ ∧ ∀ j, (h : j < fs.length) → ∃ z : Int, 0 ≤ z ∧ z ≤ 255 ∧ w.cell? ⟨b, off + j, none⟩ = some (.int .u8 z) ∧ fldOf z = fs[j]

set_option maxHeartbeats 4000000 in
theorem mlaw_b (b off cap : Nat) (R : List (List ByteArray)) (qz : Int) (q : ByteArray) (HQ : Hid (fldOf qz = q)) (q0 : 0 ≤ qz) (q1 : qz ≤ 255) (w : World) (hc : ∀ i, (h : i < R.length) → ∃ ai ci, w.cell? ⟨b, off + i, none⟩ = some (.slice ai R[i].length ci) ∧ IsInts w ai R[i]) (hl : R.length ≤ 1024) (hw : ∀ i, (h : i < R.length) → R[i].length ≤ 140737488355328) (hb : b < w.heap.size) :
    Calls Yba.prog 3 #[.slice (some ⟨b, off, none⟩) R.length cap, .int .u8 qz] w fun e w' => e = .returned (.bool true) ∧ Below w.heap.size w w' := by
  have hd : decide (1024 < (R.length : Int)) = false := by simp; omega
  obtain ⟨i43, hi43, hz43, hs43, hb43⟩ := info_parts info43
  obtain ⟨i46, hi46, hz46, hs46, hb46⟩ := info_parts info46
  go_enter Yba.func3, Yba.ntmps3
  go_wp2_with fail
  go_loop [5, 22] (fun t i => ∃ k : Nat, k ≤ R.length ∧ i = .int .i64 k ∧ t = .int .i64 (sumLen (R.take k)) ∧ sumLen (R.take k) ≤ 4096) (fun _ i => R.length - (intOf i).toNat)
  case atStart => exact ⟨0, Nat.zero_le _, rfl, rfl, Nat.zero_le _⟩
  case round =>
    obtain ⟨k, hk, rfl, rfl, hs⟩ := hrel
    by_cases hlt : k < R.length
    · obtain ⟨ai, ci, hcell, _⟩ := hc k hlt
      have hwk := hw k hlt
      have hsn := sumLen_take R k hlt
      have HS : Hid (sumLen (R.take (k + 1)) = sumLen (R.take k) + R[k].length) := hsn
      clear hsn hc hw
      by_cases hbig : 4096 < sumLen (R.take k) + R[k].length
      · go_wp2_with fail
        go_ret
        exact ⟨rfl, Below.refl _ _⟩
      · go_wp2_with fail
        go_round
        case rel => exact ⟨k + 1, by omega, by go_num, by rw [HS.out]; go_num, by rw [HS.out]; omega⟩
        case measure => simp [intOf]; omega
    · obtain rfl : k = R.length := by omega
      rw [List.take_length] at hs ⊢
      have HC : Hid (∀ i, (h : i < R.length) → ∃ ai ci, w.cell? ⟨b, off + i, none⟩ = some (.slice ai R[i].length ci) ∧ IsInts w ai R[i]) := hc
      clear hc hw
      go_wp2_with (go_at_call 5; refine (field_is qz q HQ.out _ q0 q1).mono ?_; rintro e w' ⟨rfl, hw'⟩; replace hw' := hw'.symm; subst hw')
      go_loopw [10, 39] (fun wt t wr => ∃ i : Nat, i ≤ R.length ∧ t = .int .i64 i ∧ wt = .bool (wantB q (R.take i)) ∧ ∃ hv vs, Built w.heap.size w wr (R.take i) hv vs) (fun _ t _ => R.length - (intOf t).toNat)
      case atStart => exact ⟨0, Nat.zero_le _, rfl, rfl, _, _, built_start w _ _ rfl⟩
      case round =>
        obtain ⟨i, hi, rfl, rfl, hv, vs, hB⟩ := hrel
        obtain ⟨wo, rfl⟩ : ∃ wo : World, wo = wr := ⟨wr, rfl⟩
        by_cases hilt : i < R.length
        · obtain ⟨ai, ci, hcell0, hstr⟩ := HC.out i hilt
          have HBu : Hid (Built w.heap.size w wo (R.take i) hv vs) := hB
          obtain ⟨c9, f9, hN, hown, hvl, hrows, hbel⟩ := hB
          obtain ⟨ao, ch, rfl⟩ : ∃ ao ch, hv = .slice ao vs.length ch := by
            rcases hown.2 with ⟨h1, h2⟩ | ⟨g, cp, cur, h1, _⟩
            · exact ⟨none, 0, by rw [h1, h2]⟩
            · exact ⟨_, _, h1⟩
          have hcell := (hbel.cell (p := ⟨b, off + i, none⟩) hb).trans hcell0
          have hlen := len_le_sum R i hilt
          have hvn : vs.length ≤ 1024 := by rw [hvl, List.length_take]; omega
          have H3 : Hid (Below w.heap.size w wo) := hbel
          have H4 : Hid (IsInts w ai R[i]) := hstr
          have H9 : Hid (wo.cell? ⟨w.heap.size, 9, none⟩ = some (.slice ao vs.length ch) ∧ wo.frozen? ⟨w.heap.size, 9, none⟩ = false ∧ wo.ownsRow (w.heap.size + 1) 46 3 (.slice ao vs.length ch) vs.length (hdrs vs)) := ⟨c9, f9, hown⟩
          clear hown hrows hbel hstr hcell0 hvl c9 f9
          go_wp2_with (refine wpList_make_own _ rfl (.const (.int .i64 0)) (.tmp 44) 27 rfl wo.heap.size 43 i43 _ 5 Yba.underlying27 hi43 hz43 hs43 .i64 .i64 _ R[i].length rfl rfl rfl (by rw [hb43]; omega) (by unfold maxLen; omega) (Nat.le_refl _) ?_; intro w1 hown1 hgrow1)
          have HS1 : Hid (w1.ownsRow wo.heap.size 43 5 (.slice (some ⟨wo.heap.size, 0, none⟩) 0 R[i].length) 0 [] ∧ Below wo.heap.size wo w1 ∧ wo.heap.size < w1.heap.size) := ⟨hown1, inner_start hgrow1 hown1⟩
          clear hown1 hgrow1
          go_loopw [10, 13, 48] (fun wt ps t wq => ∃ j : Nat, j ≤ R[i].length ∧ t = .int .i64 j ∧ wt = .bool (wantB q (R.take i) || anyB q (R[i].take j)) ∧ (∃ g c, ps = .slice (some ⟨g, 0, none⟩) j c) ∧ wq.ownsRow wo.heap.size 43 5 ps j (parts (R[i].take j)) ∧ Below wo.heap.size wo wq ∧ wo.heap.size < wq.heap.size) (fun _ _ t _ => R[i].length - (intOf t).toNat)
          case atStart => exact ⟨0, Nat.zero_le _, rfl, by simp [anyB], ⟨_, _, rfl⟩, HS1.out.1, HS1.out.2.1, HS1.out.2.2⟩
          case round =>
            obtain ⟨j, hj, rfl, rfl, ⟨g, c, rfl⟩, hown2, hbel2, hsz2⟩ := hrel
            have HO : Hid (wr.ownsRow wo.heap.size 43 5 (.slice (some ⟨g, 0, none⟩) j c) j (parts (R[i].take j))) := hown2
            have HB2 : Hid (Below wo.heap.size wo wr) := hbel2
            clear hown2 hbel2 HS1
            by_cases hjlt : j < R[i].length
            · rcases H4.out with hnil | ⟨bi, oi, hai, hcs⟩
              · exact absurd hjlt (by rw [hnil]; simp)
              · subst hai
                obtain ⟨z, z0, z1, hcz, hzf⟩ := hcs j hjlt
                have hbi : bi < w.heap.size := block_lt_of_cell hcz
                have e0 := ((H3.out.cell (p := ⟨bi, oi + j, none⟩) hbi).trans hcz)
                have e1 := (HB2.out.cell (p := ⟨bi, oi + j, none⟩) (Nat.lt_trans hbi hN)).trans e0
                clear e0 hcs hcz
                generalize hfx : R[i][j] = fx at hzf
                have HZ : Hid (fldOf z = fx) := hzf
                have HX : Hid (R[i][j] = fx) := hfx
                clear hzf
                have ht0 : anyB q (R[i].take (j + 1)) = (anyB q (R[i].take j) || (!fx.toList.isEmpty && (fx.toList == q.toList))) := by rw [take_snoc R[i] j hjlt, anyB_snoc, hfx]
                have HT : Hid (anyB q (R[i].take (j + 1)) = (anyB q (R[i].take j) || (!fx.toList.isEmpty && (fx.toList == q.toList)))) := ht0
                clear hfx ht0
                cases hem : fx.toList.isEmpty
                · cases he : (fx.toList == q.toList)
                  · go_wp2_with (first | (go_at_call 5; refine (field_is z fx HZ.out _ z0 z1).mono ?_; rintro e w' ⟨rfl, hw'⟩; replace hw' := hw'.symm; subst hw') | (go_at_call 6; refine (part_n fx _ hem).mono ?_; rintro e w' ⟨rfl, rfl⟩) | (at_builtin; refine wpList_append_own _ rfl (.tmp 54) (.tmp 57) 27 rfl wo.heap.size 43 i43 _ 5 72 Yba.underlying27 hi43 hz43 hs43 hb43 rfl (by decide) (.slice (some ⟨g, 0, none⟩) j c) j _ rfl ((HO.out.alloc _).alloc _) ⟨wr.heap.size + 1, 0, none⟩ 1 1 [.string fx, .string ⟨#[]⟩, .string ⟨#[]⟩, .string ⟨#[]⟩, .pointer none] rfl rfl (cells_new2 _ _ _ _) (oneCells rfl) (by unfold maxLen; omega) (by omega) (by have := HB2.out.size; simp; omega) ?_; intro v2 w2 hown3 hgrow3 hnil3; clear hnil3; obtain ⟨g2, c2, hv2⟩ := Joins.ownsRow_form hown3 (by omega); subst hv2; have R3 : Hid (_ ∧ _ ∧ _) := inner_next hjlt (by rw [HX.out]; exact (pcs_n hem).symm) HO.out HB2.out hsz2 hown3 hgrow3; clear hown3 hgrow3))
                    go_roundw
                    case rel => exact ⟨j + 1, by omega, by go_num, by rw [HT.out, hem, he]; simp, ⟨_, _, rfl⟩, R3.out.1, R3.out.2.1, R3.out.2.2⟩
                    case measure => simp [intOf]; omega

                  · go_wp2_with (first | (go_at_call 5; refine (field_is z fx HZ.out _ z0 z1).mono ?_; rintro e w' ⟨rfl, hw'⟩; replace hw' := hw'.symm; subst hw') | (go_at_call 6; refine (part_n fx _ hem).mono ?_; rintro e w' ⟨rfl, rfl⟩) | (at_builtin; refine wpList_append_own _ rfl (.tmp 54) (.tmp 57) 27 rfl wo.heap.size 43 i43 _ 5 72 Yba.underlying27 hi43 hz43 hs43 hb43 rfl (by decide) (.slice (some ⟨g, 0, none⟩) j c) j _ rfl ((HO.out.alloc _).alloc _) ⟨wr.heap.size + 1, 0, none⟩ 1 1 [.string fx, .string ⟨#[]⟩, .string ⟨#[]⟩, .string ⟨#[]⟩, .pointer none] rfl rfl (cells_new2 _ _ _ _) (oneCells rfl) (by unfold maxLen; omega) (by omega) (by have := HB2.out.size; simp; omega) ?_; intro v2 w2 hown3 hgrow3 hnil3; clear hnil3; obtain ⟨g2, c2, hv2⟩ := Joins.ownsRow_form hown3 (by omega); subst hv2; have R3 : Hid (_ ∧ _ ∧ _) := inner_next hjlt (by rw [HX.out]; exact (pcs_n hem).symm) HO.out HB2.out hsz2 hown3 hgrow3; clear hown3 hgrow3))
                    go_roundw
                    case rel => exact ⟨j + 1, by omega, by go_num, by rw [HT.out, hem, he]; simp, ⟨_, _, rfl⟩, R3.out.1, R3.out.2.1, R3.out.2.2⟩
                    case measure => simp [intOf]; omega

                · go_wp2_with (first | (go_at_call 5; refine (field_is z fx HZ.out _ z0 z1).mono ?_; rintro e w' ⟨rfl, hw'⟩; replace hw' := hw'.symm; subst hw') | (go_at_call 6; refine (part_e fx _ hem).mono ?_; rintro e w' ⟨rfl, rfl⟩) | (at_builtin; refine wpList_append_own _ rfl (.tmp 54) (.tmp 57) 27 rfl wo.heap.size 43 i43 _ 5 72 Yba.underlying27 hi43 hz43 hs43 hb43 rfl (by decide) (.slice (some ⟨g, 0, none⟩) j c) j _ rfl ((HO.out.alloc _).alloc _) ⟨wr.heap.size + 1, 0, none⟩ 1 1 [.string ⟨#[]⟩, .string ⟨#[]⟩, .string ⟨#[]⟩, .string ⟨#[120]⟩, .pointer none] rfl rfl (cells_new2 _ _ _ _) (oneCells rfl) (by unfold maxLen; omega) (by omega) (by have := HB2.out.size; simp; omega) ?_; intro v2 w2 hown3 hgrow3 hnil3; clear hnil3; obtain ⟨g2, c2, hv2⟩ := Joins.ownsRow_form hown3 (by omega); subst hv2; have R3 : Hid (_ ∧ _ ∧ _) := inner_next hjlt (by rw [HX.out]; exact (pcs_e hem).symm) HO.out HB2.out hsz2 hown3 hgrow3; clear hown3 hgrow3))
                  go_roundw
                  case rel => exact ⟨j + 1, by omega, by go_num, by rw [HT.out, hem]; simp, ⟨_, _, rfl⟩, R3.out.1, R3.out.2.1, R3.out.2.2⟩
                  case measure => simp [intOf]; omega

            · obtain rfl : j = R[i].length := by omega
              rw [List.take_length] at HO ⊢
              have d9 := (HB2.out.cell (p := ⟨w.heap.size, 9, none⟩) hN).trans H9.out.1
              have d9f := (HB2.out.frozen (p := ⟨w.heap.size, 9, none⟩) hN).trans H9.out.2.1
              have hNr : w.heap.size < wr.heap.size := by omega
              have HOW : Hid (wr.ownsRow (w.heap.size + 1) 46 3 (.slice ao vs.length ch) vs.length (hdrs vs)) := ownsRow_later H9.out.2.2 HB2.out
              go_wp2_with (at_builtin; refine wpList_append_own _ rfl (.tmp 71) (.tmp 74) 35 rfl (w.heap.size + 1) 46 i46 _ 3 56 Yba.underlying35 hi46 hz46 hs46 hb46 rfl (by decide) (.slice ao vs.length ch) vs.length _ rfl (HOW.out.alloc _) ⟨wr.heap.size, 0, none⟩ 1 1 [.string ⟨#[72]⟩, .string ⟨#[72]⟩, .slice (some ⟨g, 0, none⟩) R[i].length c] rfl rfl (cells_new1 _ _ _) (oneCells rfl) (by unfold maxLen; omega) (by omega) (by simp; omega) ?_; intro v3 w3 hown3 hgrow3 hnil3; clear hnil3; obtain ⟨g3, c3, hv3⟩ := Joins.ownsRow_form hown3 (by omega); subst hv3; have R4 : Hid (_ ∧ _) := built_next HBu.out hilt HB2.out HO.out ⟨_, _, rfl⟩ hown3 hgrow3; clear hown3 hgrow3; have k9 := R4.out.1.1; have kf := R4.out.1.2)
              go_roundw
              case rel => exact ⟨i + 1, by omega, by go_num, by rw [take_snoc R i hilt, wantB_snoc], _, _, R4.out.2⟩
              case measure => simp [intOf]; omega
        · obtain rfl : i = R.length := by omega
          rw [List.take_length] at hB ⊢
          obtain ⟨g, hL⟩ := built_laid hB hl (fun i h => Nat.le_trans (len_le_sum R i h) hs)
          have c9 := hB.1
          have hN := hB.2.2.1
          have HBl : Hid (Below w.heap.size w wo) := hB.2.2.2.2.2.2
          clear hB
          have hwi := want_iff q R
          generalize wantB q R = wb at hwi ⊢
          go_wp2_with fail
          refine (sends_calls w.heap.size g hv (R.map (List.map nf)) q wo hN c9 hL).mono ?_
          rintro e w5 ⟨⟨bb, rfl, hiff⟩, hbel5⟩
          obtain rfl : bb = wb := by rw [Bool.eq_iff_iff, hiff, hwi]
          have HF : Hid (Below w.heap.size w w5) := HBl.out.trans (hbel5.mono (by omega))
          clear hiff hwi hbel5 HBl hL c9 hN
          go_wp2_with fail
          all_goals go_ret
          all_goals exact ⟨by simp, HF.out⟩

set_option maxHeartbeats 1000000 in
theorem mlaw_nil (a : Option Addr) (cap : Nat) (qz : Int) (q : ByteArray) (HQ : Hid (fldOf qz = q)) (q0 : 0 ≤ qz) (q1 : qz ≤ 255) (w : World) :
    Calls Yba.prog 3 #[.slice a 0 cap, .int .u8 qz] w fun e w' => e = .returned (.bool true) ∧ Below w.heap.size w w' := by
  go_enter Yba.func3, Yba.ntmps3
  go_wp2_with fail
  go_loop [5, 22] (fun t i => i = .int .i64 0 ∧ t = .int .i64 0) (fun _ _ => 0)
  case atStart => exact ⟨rfl, rfl⟩
  case round =>
    obtain ⟨rfl, rfl⟩ := hrel
    go_wp2_with (go_at_call 5; refine (field_is qz q HQ.out _ q0 q1).mono ?_; rintro e w' ⟨rfl, hw'⟩; replace hw' := hw'.symm; subst hw')
    go_loopw [10, 39] (fun wt t wr => t = .int .i64 0 ∧ wt = .bool false ∧ ∃ hv vs, Built w.heap.size w wr [] hv vs) (fun _ _ _ => 0)
    case atStart => exact ⟨rfl, rfl, _, _, built_start w _ _ rfl⟩
    case round =>
      obtain ⟨rfl, rfl, hv, vs, hB⟩ := hrel
      obtain ⟨g, hL⟩ := built_laid hB (by simp) (fun i h => absurd h (by simp))
      have c9 := hB.1
      have hN := hB.2.2.1
      have HBl : Hid (Below w.heap.size w wr) := hB.2.2.2.2.2.2
      clear hB
      obtain ⟨wo, rfl⟩ : ∃ wo : World, wo = wr := ⟨wr, rfl⟩
      go_wp2_with fail
      refine (sends_calls w.heap.size g hv [] q wo hN c9 hL).mono ?_
      rintro e w5 ⟨⟨bb, rfl, hiff⟩, hbel5⟩
      obtain rfl : bb = false := by
        cases bb with
        | false => rfl
        | true =>
          obtain ⟨⟨⟨i, j⟩, h1, _⟩, _⟩ := hiff.1 rfl
          exact absurd h1 (by simp)
      have HF : Hid (Below w.heap.size w w5) := HBl.out.trans (hbel5.mono (by omega))
      clear hiff hbel5 HBl hL c9 hN
      go_wp2_with fail
      all_goals go_ret
      all_goals exact ⟨by simp, HF.out⟩
set_option maxHeartbeats 1000000 in
theorem mlaw_long (a : Option Addr) (len cap : Nat) (qz : Int) (w : World) (h : 1024 < len) :
    Calls Yba.prog 3 #[.slice a len cap, .int .u8 qz] w fun e w' => e = .returned (.bool true) ∧ Below w.heap.size w w' := by
  have hd : decide (1024 < (len : Int)) = true := by simp; omega
  go_enter Yba.func3, Yba.ntmps3
  go_wp2_with fail
  go_ret
  exact ⟨rfl, Below.refl _ _⟩

/-- What the walk is told of a [][]uint8 that came in. -/
def IsMRows (w : World) (a : Option Addr) (R : List (List ByteArray)) : Prop :=
  R = [] ∨ ∃ b off, a = some ⟨b, off, none⟩ ∧ ∀ i, (h : i < R.length) → ∃ ai ci, w.cell? ⟨b, off + i, none⟩ = some (.slice ai R[i].length ci) ∧ IsInts w ai R[i]
theorem model_walk (a : Option Addr) (cap : Nat) (R : List (List ByteArray)) (qz : Int) (q : ByteArray) (HQ : Hid (fldOf qz = q)) (q0 : 0 ≤ qz) (q1 : qz ≤ 255) (w : World) (hR : IsMRows w a R) (hw : ∀ i, (h : i < R.length) → R[i].length ≤ 140737488355328) :
    Calls Yba.prog 3 #[.slice a R.length cap, .int .u8 qz] w fun e w' => e = .returned (.bool true) ∧ Below w.heap.size w w' := by
  rcases hR with rfl | ⟨b, off, rfl, hc⟩
  · exact mlaw_nil a cap qz q HQ q0 q1 w
  · by_cases h0 : R.length = 0
    · rw [h0]; exact mlaw_nil _ cap qz q HQ q0 q1 w
    · by_cases hl : 1024 < R.length
      · exact mlaw_long _ _ cap qz w hl
      · obtain ⟨_, _, hcell, _⟩ := hc 0 (by omega)
        exact mlaw_b b off cap R qz q HQ q0 q1 w hc (by omega) hw (block_lt_of_cell hcell)
end Go.Proofs.Ybulkaunw.It
