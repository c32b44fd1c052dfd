import Derived.Test.YbulkejwsDist
import Derived.Laws.Bits64
namespace Go.Proofs.Ybulkejws
open Go.RowKit

theorem w64_add (a b : Int) : wrap64 (IntKind.u64.wrap (IntKind.u64.wrap a + IntKind.u64.wrap b)) = wrap64 (a + b) := by
  simp only [IntKind.wrap_u64, wrap64]; omega
theorem w64_one (a : Int) : wrap64 (IntKind.u64.wrap (IntKind.u64.wrap a + 1)) = wrap64 (a + 1) := by
  simp only [IntKind.wrap_u64, wrap64]; omega
theorem w64_zero (a : Int) : wrap64 (IntKind.u64.wrap (IntKind.u64.wrap a)) = wrap64 (a + 0) := by
  simp only [IntKind.wrap_u64, wrap64]; omega
theorem w64_sum (h p x j : Int) : wrap64 (IntKind.u64.wrap (IntKind.u64.wrap (IntKind.u64.wrap (IntKind.u64.wrap h + IntKind.u64.wrap p) + IntKind.u64.wrap x) + IntKind.u64.wrap j)) = sumOf h p x j := by
  simp only [IntKind.wrap_u64, sumOf, wrap64]; omega
theorem w64_sum0 (h p x : Int) : wrap64 (IntKind.u64.wrap (IntKind.u64.wrap (IntKind.u64.wrap (IntKind.u64.wrap h + IntKind.u64.wrap p) + IntKind.u64.wrap x))) = sumOf h p x 0 := by
  simp only [IntKind.wrap_u64, sumOf, wrap64]; omega
theorem i64_and1 (n : Int) : bits .and .i64 n 1 = n % 2 := by
  have h1 : (BitVec.ofInt 64 1).toNat = 2 ^ 1 - 1 := by decide
  have key : (BitVec.ofInt 64 n &&& BitVec.ofInt 64 1).toNat = (n % ((2 ^ 64 : Nat) : Int)).toNat % 2 ^ 1 := by
    rw [BitVec.toNat_and, BitVec.toNat_ofInt, h1, Nat.and_two_pow_sub_one_eq_mod]
  show IntKind.i64.wrap ((BitVec.ofInt 64 n &&& BitVec.ofInt 64 1).toNat : Nat) = n % 2
  rw [key, IntKind.wrap_i64]
  omega
theorem w64_bd (x : Int) : -9223372036854775808 ≤ wrap64 x ∧ wrap64 x ≤ 9223372036854775807 := by
  unfold wrap64; omega
theorem tdiv2 (q : Int) : q.tdiv 2 = if q < 0 ∧ q % 2 = 1 then q / 2 + 1 else q / 2 := by
  by_cases h0 : 0 ≤ q
  · rw [if_neg (by omega), Int.tdiv_eq_ediv_of_nonneg h0]
  · have e : q.tdiv 2 = -((-q) / 2) := by
      rw [← Int.tdiv_eq_ediv_of_nonneg (show 0 ≤ -q by omega), Int.neg_tdiv, Int.neg_neg]
    rw [e]
    split <;> omega
theorem td_odd {x : Int} (h : wrap64 x < 0) (h1 : (bits .and .i64 (wrap64 x) 1 != 0) = true) : wrap64 ((wrap64 x).tdiv 2) = wrap64 (wrap64 x / 2 + 1) := by
  rw [i64_and1] at h1
  have : wrap64 x % 2 ≠ 0 := by simpa using h1
  rw [tdiv2, if_pos (by omega)]
theorem td_even {x : Int} (h : wrap64 x < 0) (h1 : (bits .and .i64 (wrap64 x) 1 != 0) = false) : wrap64 ((wrap64 x).tdiv 2) = wrap64 x / 2 := by
  rw [i64_and1] at h1
  have : wrap64 x % 2 = 0 := by simpa using h1
  have := w64_bd x
  rw [tdiv2, if_neg (by omega)]
  generalize wrap64 x = q at *
  unfold wrap64; omega
theorem td_pos {x : Int} (h : 0 ≤ wrap64 x) : wrap64 ((wrap64 x).tdiv 2) = wrap64 x / 2 := by
  have := w64_bd x
  rw [tdiv2, if_neg (by omega)]
  generalize wrap64 x = q at *
  unfold wrap64; omega
theorem half_gt {rdl d mind : Int} (h : wrap64 (rdl + d) < mind) : halfOf rdl d mind = wrap64 ((wrap64 (mind + 1)).tdiv 2) := by
  rw [halfOf, if_neg (by omega)]
theorem half_le {rdl d mind : Int} (h : mind ≤ wrap64 (rdl + d)) : halfOf rdl d mind = wrap64 ((wrap64 (wrap64 (rdl + d) + 1)).tdiv 2) := by
  rw [halfOf]
  by_cases h1 : mind < wrap64 (rdl + d)
  · rw [if_pos h1]
  · rw [if_neg h1, show mind = wrap64 (rdl + d) by omega]

set_option maxHeartbeats 1000000 in
set_option maxRecDepth 100000 in
theorem expect_given (rd rdl rdp : Int) (hd : Bool) (d disp : Int) (hj : Bool) (j mind : Int) (w : World) :
    Calls Yba.prog 7 #[.bool true, .int .i64 rd, .int .i64 rdl, .int .i64 rdp, .bool hd, .int .i64 d, .int .i64 disp, .bool hj, .int .i64 j, .int .i64 mind] w fun e w' => e = .returned (.int .i64 rd) ∧ w' = w := by
  go_enter Yba.func7, Yba.ntmps7
  go_wp2
  go_ret
  exact ⟨rfl, rfl⟩

set_option maxHeartbeats 4000000 in
set_option maxRecDepth 100000 in
theorem expect_any (rd rdl rdp : Int) (hd : Bool) (d disp : Int) (hj : Bool) (j mind : Int) (w : World) :
    Calls Yba.prog 7 #[.bool false, .int .i64 rd, .int .i64 rdl, .int .i64 rdp, .bool hd, .int .i64 d, .int .i64 disp, .bool hj, .int .i64 j, .int .i64 mind] w
      fun e w' => e = .returned (.int .i64 (distOf (halfOf rdl (if hd then d else 0) mind) rdp disp (if hj then j else 0))) ∧ w' = w := by
  cases hd <;> cases hj
  all_goals simp only [if_true, Bool.false_eq_true, if_false]
  all_goals go_enter Yba.func7, Yba.ntmps7
  all_goals go_wp2
  all_goals go_ret
  all_goals refine ⟨?_, rfl⟩
  all_goals simp only [w64_sum, w64_sum0] at *
  all_goals simp only [w64_add, w64_one, w64_zero] at *
  all_goals first | rw [half_gt (by assumption)] | rw [half_le (by assumption)]
  all_goals first | rw [td_odd (by assumption) (by assumption)] | rw [td_even (by assumption) (by assumption)] | rw [td_pos (by assumption)]
  all_goals first | exact dist_hi (by assumption) | exact dist_lo (by assumption)
end Go.Proofs.Ybulkejws
