/-
  The plain law of growth: no Go in sight but the wrap of 64 bits.
-/
import Derived.Test.YbulkauhyFlight
namespace Go.Proofs.Ybulkauhy.Fl
open Go.RowKit

/-- The limit behind k steady answers; the least round trip. -/
def gLim (k most : Int) : Int := if 8 + k ≤ most then 8 + k else most
def gWl (r : Int) : Int := if r < 1 then 1 else r
def gLst (k r : Int) : Int := if k = 0 then 0 else gWl r

theorem gWl_pos (r : Int) : 1 ≤ gWl r := by unfold gWl; split <;> omega
theorem g_lst (k r : Int) : nLst (gLst k r) r = gWl r := by
  by_cases hk : k = 0
  · simp only [gLst, hk, if_true]
    unfold nLst gWl; simp
  · simp only [gLst, hk, if_false]
    unfold nLst gWl
    by_cases h : r < 1
    · simp [h]
    · simp [h]
theorem g_two (r : Int) (h : r ≤ 1152921504606846976) : wrap64 (2 * gWl r) = 2 * gWl r := by
  have := gWl_pos r
  have h2 : gWl r ≤ 1152921504606846976 := by unfold gWl; split <;> omega
  unfold wrap64; omega
theorem g_le (r : Int) : r ≤ 2 * gWl r := by unfold gWl; split <;> omega
theorem g_lim (k most r : Int) (hk : 0 ≤ k) (hk2 : k ≤ 1024) (hm : 8 ≤ most) (hm2 : most ≤ 255) (hr : r ≤ 1152921504606846976) : nLim (gLim k most) most most 0 (gWl r) r = gLim (k + 1) most := by
  have h2 := g_two r hr
  have h3 := g_le r
  unfold nLim
  rw [h2]
  unfold gLim
  by_cases h : 8 + k ≤ most
  · rw [if_pos h]
    by_cases h' : most ≤ 8 + k
    · rw [if_pos h', if_neg (by omega)]; omega
    · rw [if_neg h', if_neg (by omega), if_pos (by omega), if_pos (by omega)]
      unfold wrap64; omega
  · rw [if_neg h, if_pos (Int.le_refl _), if_neg (by omega)]
theorem g_cnt (k most r : Int) (hr : r ≤ 1152921504606846976) : nCnt (gLim k most) most most 0 (gWl r) r = 0 := by
  have h2 := g_two r hr
  have h3 := g_le r
  unfold nCnt
  rw [h2]
  unfold gLim
  by_cases h : 8 + k ≤ most
  · rw [if_pos h]
    by_cases h' : most ≤ 8 + k
    · rw [if_pos h']
    · rw [if_neg h', if_neg (by omega), if_pos (by omega)]
  · rw [if_neg h, if_pos (Int.le_refl _)]
theorem g_next (k r : Int) (hk : 0 ≤ k) : gLst (k + 1) r = gWl r := by unfold gLst; rw [if_neg (by omega)]
theorem g_r (r : Int) (l : -9223372036854775808 ≤ r) (u : r ≤ 1152921504606846976) : wrap64 (r - 0) = r := by unfold wrap64; omega
end Go.Proofs.Ybulkauhy.Fl
