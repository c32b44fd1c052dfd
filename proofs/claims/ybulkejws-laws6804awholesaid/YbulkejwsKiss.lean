import Derived.Test.YbulkejwsProg
import Derived.WalkKit
import Derived.WalkSpells
import Derived.WalkLawsBesides
import Derived.Deep.LoopGhost
namespace Go.Proofs.Ybulkejws
open Go.RowKit

/-- Is the byte shown as itself? -/
def sh (b : Int) : Bool := decide (33 ≤ b ∧ b ≤ 126)
/-- A byte as a kiss code shows it. -/
def fb (b : Int) : Int := if sh b = true then b else 63
theorem fb_yes {b : Int} (h : sh b = true) : fb b = b := by rw [fb, if_pos h]
theorem fb_no {b : Int} (h : sh b = false) : fb b = 63 := by rw [fb, if_neg (by rw [h]; exact Bool.false_ne_true)]

theorem ret_bool {a b : Bool} (h : a = b) : Ending.returned (.bool a) = .returned (.bool b) := by rw [h]
set_option maxHeartbeats 400000 in
theorem shown_any (b : Int) (w : World) : Calls Yba.prog 8 #[.int .u8 b] w fun e w' => e = .returned (.bool (sh b)) ∧ w' = w := by
  by_cases h1 : 33 ≤ b
  · go_enter Yba.func8, Yba.ntmps8
    go_wp2
    go_ret
    refine ⟨ret_bool ?_, rfl⟩
    simp [sh, h1]
  · go_enter Yba.func8, Yba.ntmps8
    go_wp2
    go_ret
    refine ⟨ret_bool ?_, rfl⟩
    simp only [sh]
    exact (decide_eq_false (by omega)).symm

/-- The box behind k rounds. -/
def boxK (x0 x1 x2 x3 : Int) (k : Nat) : Obj :=
  .cells #[.int .u8 (if 0 < k then fb x0 else x0), .int .u8 (if 1 < k then fb x1 else x1), .int .u8 (if 2 < k then fb x2 else x2), .int .u8 (if 3 < k then fb x3 else x3)] 22

set_option maxHeartbeats 1000000 in
set_option maxRecDepth 100000 in
theorem kiss_any (x0 x1 x2 x3 : Int) (w : World) :
    Calls Yba.prog 5 #[.agg #[.int .u8 x0, .int .u8 x1, .int .u8 x2, .int .u8 x3]] w fun e w' => e = .returned (.string (strOfNums [fb x0, fb x1, fb x2, fb x3])) ∧ w' = w.alloc (boxK x0 x1 x2 x3 4) := by
  have i0 : ∀ w, (Instr.index 22 (.agg #[.int .u8 x0, .int .u8 x1, .int .u8 x2, .int .u8 x3]) (.int .i64 0)).run Yba.prog w = .ok (.int .u8 x0) w := fun _ => by kernel_rfl
  have i1 : ∀ w, (Instr.index 22 (.agg #[.int .u8 x0, .int .u8 x1, .int .u8 x2, .int .u8 x3]) (.int .i64 1)).run Yba.prog w = .ok (.int .u8 x1) w := fun _ => by kernel_rfl
  have i2 : ∀ w, (Instr.index 22 (.agg #[.int .u8 x0, .int .u8 x1, .int .u8 x2, .int .u8 x3]) (.int .i64 2)).run Yba.prog w = .ok (.int .u8 x2) w := fun _ => by kernel_rfl
  have i3 : ∀ w, (Instr.index 22 (.agg #[.int .u8 x0, .int .u8 x1, .int .u8 x2, .int .u8 x3]) (.int .i64 3)).run Yba.prog w = .ok (.int .u8 x3) w := fun _ => by kernel_rfl
  go_enter Yba.func5, Yba.ntmps5
  go_wp2
  go_loopg [6] 4 (fun g s6 wr => ∃ k : Nat, k ≤ 4 ∧ 4 - k ≤ g ∧ s6 = .int .i64 k ∧ wr = w.alloc (boxK x0 x1 x2 x3 k))
  case atStart => exact ⟨0, by omega, by omega, rfl, rfl⟩
  case round =>
    obtain ⟨k, hk, hg, rfl, rfl⟩ := hrel
    rcases (show k = 0 ∨ k = 1 ∨ k = 2 ∨ k = 3 ∨ k = 4 by omega) with rfl | rfl | rfl | rfl | rfl
    · cases hs : sh x0 with
      | true =>
        have E : Hid (boxK x0 x1 x2 x3 1 = boxK x0 x1 x2 x3 0) := (show _ = _ by simp [boxK, fb_yes hs])
        simp only [boxK, Nat.reduceLT, if_false]
        go_wp2_with fail
        refine (shown_any x0 _).mono ?_
        rintro e w' ⟨rfl, rfl⟩
        go_wp2
        go_roundg 3
        case measure => omega
        case rel =>
          refine ⟨1, by omega, by omega, rfl, ?_⟩
          rw [E.out]
          simp [boxK]
      | false =>
        simp only [boxK, Nat.reduceLT, if_false]
        go_wp2_with fail
        refine (shown_any x0 _).mono ?_
        rintro e w' ⟨rfl, rfl⟩
        go_wp2
        go_roundg 3
        case measure => omega
        case rel =>
          refine ⟨1, by omega, by omega, rfl, ?_⟩
          simp [boxK, fb_no hs]
    · cases hs : sh x1 with
      | true =>
        have E : Hid (boxK x0 x1 x2 x3 2 = boxK x0 x1 x2 x3 1) := (show _ = _ by simp [boxK, fb_yes hs])
        simp only [boxK, Nat.reduceLT, if_true, if_false]
        go_wp2_with fail
        refine (shown_any x1 _).mono ?_
        rintro e w' ⟨rfl, rfl⟩
        go_wp2
        go_roundg 2
        case measure => omega
        case rel =>
          refine ⟨2, by omega, by omega, rfl, ?_⟩
          rw [E.out]
          simp [boxK]
      | false =>
        simp only [boxK, Nat.reduceLT, if_true, if_false]
        go_wp2_with fail
        refine (shown_any x1 _).mono ?_
        rintro e w' ⟨rfl, rfl⟩
        go_wp2
        go_roundg 2
        case measure => omega
        case rel =>
          refine ⟨2, by omega, by omega, rfl, ?_⟩
          simp [boxK, fb_no hs]
    · cases hs : sh x2 with
      | true =>
        have E : Hid (boxK x0 x1 x2 x3 3 = boxK x0 x1 x2 x3 2) := (show _ = _ by simp [boxK, fb_yes hs])
        simp only [boxK, Nat.reduceLT, if_true, if_false]
        go_wp2_with fail
        refine (shown_any x2 _).mono ?_
        rintro e w' ⟨rfl, rfl⟩
        go_wp2
        go_roundg 1
        case measure => omega
        case rel =>
          refine ⟨3, by omega, by omega, rfl, ?_⟩
          rw [E.out]
          simp [boxK]
      | false =>
        simp only [boxK, Nat.reduceLT, if_true, if_false]
        go_wp2_with fail
        refine (shown_any x2 _).mono ?_
        rintro e w' ⟨rfl, rfl⟩
        go_wp2
        go_roundg 1
        case measure => omega
        case rel =>
          refine ⟨3, by omega, by omega, rfl, ?_⟩
          simp [boxK, fb_no hs]
    · cases hs : sh x3 with
      | true =>
        have E : Hid (boxK x0 x1 x2 x3 4 = boxK x0 x1 x2 x3 3) := (show _ = _ by simp [boxK, fb_yes hs])
        simp only [boxK, Nat.reduceLT, if_true, if_false]
        go_wp2_with fail
        refine (shown_any x3 _).mono ?_
        rintro e w' ⟨rfl, rfl⟩
        go_wp2
        go_roundg 0
        case measure => omega
        case rel =>
          refine ⟨4, by omega, by omega, rfl, ?_⟩
          rw [E.out]
          simp [boxK]
      | false =>
        simp only [boxK, Nat.reduceLT, if_true, if_false]
        go_wp2_with fail
        refine (shown_any x3 _).mono ?_
        rintro e w' ⟨rfl, rfl⟩
        go_wp2
        go_roundg 0
        case measure => omega
        case rel =>
          refine ⟨4, by omega, by omega, rfl, ?_⟩
          simp [boxK, fb_no hs]
    · have hcv : ∀ w', (∀ i, i < 4 → World.cell? w' ⟨w.heap.size, 0 + i, none⟩ = some (.int .u8 ([fb x0, fb x1, fb x2, fb x3].getD i 0))) → (convert 37 9 (.slice (some ⟨w.heap.size, 0, none⟩) 4 4)).run Yba.prog w' = .ok (.string (strOfNums [fb x0, fb x1, fb x2, fb x3])) w' :=
        fun w' h => run_convert_bytes_arg w' 37 5 Yba.underlying37 Yba.underlying5 w.heap.size 0 4 4 [fb x0, fb x1, fb x2, fb x3] rfl h 9 Yba.underlying9
      have hcv4 := hcv (w.alloc (boxK x0 x1 x2 x3 4)) (fun i hi => by
        rw [Nat.zero_add, boxK, World.cell?_alloc_at _ _ _ _ rfl]
        rcases (show i = 0 ∨ i = 1 ∨ i = 2 ∨ i = 3 by omega) with rfl | rfl | rfl | rfl <;> rfl)
      clear hcv
      generalize hw : w.alloc (boxK x0 x1 x2 x3 4) = w4 at hcv4 ⊢
      go_wp2
      go_ret
      exact ⟨rfl, hw.symm⟩
end Go.Proofs.Ybulkejws
