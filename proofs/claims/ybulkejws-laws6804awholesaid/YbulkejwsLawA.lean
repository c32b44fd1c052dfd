import Derived.Test.YbulkejwsKiss
import Derived.Laws.StructEq
import Derived.Below
namespace Go.Proofs.Ybulkejws
open Go.RowKit

theorem fb_bd {b : Int} (h : 0 ≤ b ∧ b ≤ 255) : 0 ≤ fb b ∧ fb b ≤ 255 := by
  unfold fb
  split <;> omega
theorem str_size (x0 x1 x2 x3 : Int) : (strOfNums [x0, x1, x2, x3]).size = 4 := strOfNums_size _
theorem str_at (xs : List Int) (k : Nat) (hk : k < (strOfNums xs).size) (hb : 0 ≤ xs.getD k 0 ∧ xs.getD k 0 ≤ 255) : (((strOfNums xs)[k]'hk).toNat : Int) = xs.getD k 0 := by
  have hl : k < xs.length := by rw [strOfNums_size] at hk; exact hk
  have e : (strOfNums xs)[k]'hk = UInt8.ofNat (xs.getD k 0).toNat := by
    show (strOfNums xs).data[k]'_ = _
    simp [strOfNums, hl]
  rw [e, UInt8.toNat_ofNat']
  omega

theorem all_range_eqI : ∀ (xs ys : List Int), xs.length = ys.length → ((List.range xs.length).all fun i => xs.getD i 0 == ys.getD i 0) = (xs == ys)
  | [], [], _ => rfl
  | x :: xs, y :: ys, h => by
    have ih := all_range_eqI xs ys (by simpa using h)
    rw [List.length_cons, List.range_succ_eq_map, List.all_cons, List.all_map]
    simp only [List.getD_cons_zero, Function.comp_def, List.getD_cons_succ, ih]
    simp [List.cons_beq_cons]
  | [], _ :: _, h => by simp at h
  | _ :: _, [], h => by simp at h

theorem run_equalIn_ints {P : Program} (w : World) (d : Nat) (t e : TypeId) (n : Nat) (ht : P.underlying t = some (.array n e)) (he : P.underlying e = some (.int .u8)) (hsz : ∀ w, (sizeOf e).run P w = .ok 1 w)
    (xs ys : List Int) (hx : xs.length = n) (hy : ys.length = n) :
    (Op.equalIn (d + 2) t (.agg (xs.map (Value.int .u8)).toArray) (.agg (ys.map (Value.int .u8)).toArray)).run P w = .ok (xs == ys) w := by
  rw [← all_range_eqI xs ys (hx.trans hy.symm), hx, List.range_eq_range', Op.equalIn]
  simp only [Sem.run_bind, run_underlying ht, Result.andThen_ok, hsz, Std.Legacy.Range.forIn_eq_forIn_range', Std.Legacy.Range.size, Nat.sub_zero, Nat.add_sub_cancel, Nat.div_one]
  have hl : ∀ i ∈ List.range' 0 n 1, i < n := fun i hi => by simpa using (List.mem_range'_1.1 hi).2
  generalize List.range' 0 n 1 = l at hl ⊢
  induction l with
  | nil => simp
  | cons i l ih =>
    have hi : i < n := hl i (by simp)
    have px : (part e (xs.map (Value.int .u8)).toArray (i * 1)).run P w = .ok (.int .u8 (xs.getD i 0)) w := by
      simp [part, isAgg, run_underlying he, List.getElem?_eq_getElem (show i < xs.length by omega)]
    have py : (part e (ys.map (Value.int .u8)).toArray (i * 1)).run P w = .ok (.int .u8 (ys.getD i 0)) w := by
      simp [part, isAgg, run_underlying he, List.getElem?_eq_getElem (show i < ys.length by omega)]
    have pe : (Op.equalIn (d + 1) e (.int .u8 (xs.getD i 0)) (.int .u8 (ys.getD i 0))).run P w = .ok (xs.getD i 0 == ys.getD i 0) w := by
      rw [run_equalIn_int w d e .u8 .u8 _ _ he]
    simp only [List.forIn_cons, Sem.run_bind, px, py, pe, Result.andThen_ok, List.all_cons]
    cases hb : (xs.getD i 0 == ys.getD i 0)
    · simp
    · simp only [Bool.not_true, Bool.false_eq_true, if_false, Sem.run_pure, Result.andThen_ok, Bool.true_and]
      exact ih fun j hj => hl j (by simp [hj])

theorem eqlA (x0 x1 x2 x3 : Int) (w : World) : Sem.run Yba.prog (Op.equalIn 10000 22 (.agg #[.int .u8 x0, .int .u8 x1, .int .u8 x2, .int .u8 x3]) (.agg #[.int .u8 x0, .int .u8 x1, .int .u8 x2, .int .u8 x3])) w = .ok true w := by
  have h := run_equalIn_ints (P := Yba.prog) w 9998 22 5 4 Yba.underlying22 Yba.underlying5 Yba.sizeOf5 [x0, x1, x2, x3] [x0, x1, x2, x3] rfl rfl
  rw [beq_self_eq_true] at h
  exact h

set_option maxHeartbeats 1000000 in
set_option maxRecDepth 100000 in
theorem lawA_walk (x0 x1 x2 x3 : Int) (w : World) (b0 : 0 ≤ x0 ∧ x0 ≤ 255) (b1 : 0 ≤ x1 ∧ x1 ≤ 255) (b2 : 0 ≤ x2 ∧ x2 ≤ 255) (b3 : 0 ≤ x3 ∧ x3 ≤ 255) :
    Calls Yba.prog 3 #[.agg #[.int .u8 x0, .int .u8 x1, .int .u8 x2, .int .u8 x3]] w fun e w' => e = .returned (.bool true) ∧ Below w.heap.size w w' := by
  go_enter Yba.func3, Yba.ntmps3
  go_wp2_with fail
  refine (kiss_any x0 x1 x2 x3 _).mono ?_
  rintro e w4 ⟨rfl, rfl⟩
  have hsz := str_size (fb x0) (fb x1) (fb x2) (fb x3)
  have g0 := str_at [fb x0, fb x1, fb x2, fb x3] 0 (by rw [hsz]; decide) (fb_bd b0)
  have g1 := str_at [fb x0, fb x1, fb x2, fb x3] 1 (by rw [hsz]; decide) (fb_bd b1)
  have g2 := str_at [fb x0, fb x1, fb x2, fb x3] 2 (by rw [hsz]; decide) (fb_bd b2)
  have g3 := str_at [fb x0, fb x1, fb x2, fb x3] 3 (by rw [hsz]; decide) (fb_bd b3)
  generalize hS : strOfNums [fb x0, fb x1, fb x2, fb x3] = S at hsz g0 g1 g2 g3 ⊢
  clear hS
  go_wp2_with fail
  go_loopg [5] 4 (fun g s5 wr => ∃ k : Nat, k ≤ 4 ∧ 4 - k ≤ g ∧ s5 = .int .i64 k ∧ wr = ((w.alloc (.cells #[.int .u8 x0, .int .u8 x1, .int .u8 x2, .int .u8 x3] 22)).alloc (.cells #[.int .u8 x0, .int .u8 x1, .int .u8 x2, .int .u8 x3] 22)).alloc (boxK x0 x1 x2 x3 4))
  case atStart => exact ⟨0, by omega, by omega, rfl, rfl⟩
  case round =>
    obtain ⟨k, hk, hg, rfl, rfl⟩ := hrel
    rcases (show k = 0 ∨ k = 1 ∨ k = 2 ∨ k = 3 ∨ k = 4 by omega) with rfl | rfl | rfl | rfl | rfl
    · by_cases h1 : 33 ≤ x0
      · by_cases h2 : x0 ≤ 126
        · have e : fb x0 = x0 := fb_yes (by simp [sh, h1, h2])
          simp only [List.getD_cons_zero, e] at g0
          go_wp2
          go_roundg 3
          case measure => omega
          case rel => exact ⟨1, by omega, by omega, rfl, rfl⟩
        · have e : fb x0 = 63 := fb_no (by simp [sh, h2])
          simp only [List.getD_cons_zero, e] at g0
          go_wp2
          go_roundg 3
          case measure => omega
          case rel => exact ⟨1, by omega, by omega, rfl, rfl⟩
      · have e : fb x0 = 63 := fb_no (by simp [sh, h1])
        simp only [List.getD_cons_zero, e] at g0
        go_wp2
        go_roundg 3
        case measure => omega
        case rel => exact ⟨1, by omega, by omega, rfl, rfl⟩
    · by_cases h1 : 33 ≤ x1
      · by_cases h2 : x1 ≤ 126
        · have e : fb x1 = x1 := fb_yes (by simp [sh, h1, h2])
          simp only [List.getD_cons_succ, List.getD_cons_zero, e] at g1
          go_wp2
          go_roundg 2
          case measure => omega
          case rel => exact ⟨2, by omega, by omega, rfl, rfl⟩
        · have e : fb x1 = 63 := fb_no (by simp [sh, h2])
          simp only [List.getD_cons_succ, List.getD_cons_zero, e] at g1
          go_wp2
          go_roundg 2
          case measure => omega
          case rel => exact ⟨2, by omega, by omega, rfl, rfl⟩
      · have e : fb x1 = 63 := fb_no (by simp [sh, h1])
        simp only [List.getD_cons_succ, List.getD_cons_zero, e] at g1
        go_wp2
        go_roundg 2
        case measure => omega
        case rel => exact ⟨2, by omega, by omega, rfl, rfl⟩
    · by_cases h1 : 33 ≤ x2
      · by_cases h2 : x2 ≤ 126
        · have e : fb x2 = x2 := fb_yes (by simp [sh, h1, h2])
          simp only [List.getD_cons_succ, List.getD_cons_zero, e] at g2
          go_wp2
          go_roundg 1
          case measure => omega
          case rel => exact ⟨3, by omega, by omega, rfl, rfl⟩
        · have e : fb x2 = 63 := fb_no (by simp [sh, h2])
          simp only [List.getD_cons_succ, List.getD_cons_zero, e] at g2
          go_wp2
          go_roundg 1
          case measure => omega
          case rel => exact ⟨3, by omega, by omega, rfl, rfl⟩
      · have e : fb x2 = 63 := fb_no (by simp [sh, h1])
        simp only [List.getD_cons_succ, List.getD_cons_zero, e] at g2
        go_wp2
        go_roundg 1
        case measure => omega
        case rel => exact ⟨3, by omega, by omega, rfl, rfl⟩
    · by_cases h1 : 33 ≤ x3
      · by_cases h2 : x3 ≤ 126
        · have e : fb x3 = x3 := fb_yes (by simp [sh, h1, h2])
          simp only [List.getD_cons_succ, List.getD_cons_zero, e] at g3
          go_wp2
          go_roundg 0
          case measure => omega
          case rel => exact ⟨4, by omega, by omega, rfl, rfl⟩
        · have e : fb x3 = 63 := fb_no (by simp [sh, h2])
          simp only [List.getD_cons_succ, List.getD_cons_zero, e] at g3
          go_wp2
          go_roundg 0
          case measure => omega
          case rel => exact ⟨4, by omega, by omega, rfl, rfl⟩
      · have e : fb x3 = 63 := fb_no (by simp [sh, h1])
        simp only [List.getD_cons_succ, List.getD_cons_zero, e] at g3
        go_wp2
        go_roundg 0
        case measure => omega
        case rel => exact ⟨4, by omega, by omega, rfl, rfl⟩
    · have hq := eqlA x0 x1 x2 x3
      simp only [boxK]
      go_wp2
      go_ret
      exact ⟨rfl, (((Below.refl _ w).alloc (Nat.le_refl _) _).alloc (by rw [World.size_alloc]; omega) _).alloc (by rw [World.size_alloc, World.size_alloc]; omega) _⟩
end Go.Proofs.Ybulkejws
