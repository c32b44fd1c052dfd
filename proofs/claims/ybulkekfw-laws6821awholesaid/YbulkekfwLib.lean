import Derived.Test.YbulkekfwProg
import Derived.WalkKit
import Derived.WalkSpells
import Derived.WalkLawsBesides
import Derived.Below
import Derived.Lib.SliceRun
import Derived.Laws.BytesArg
import Derived.Laws.Pointers
import Derived.Deep.QuietTactic
namespace Go.Proofs.Ybulkekfw
open Go.RowKit

set_option maxHeartbeats 1000000 in
theorem eq_same (v1 v2 : Value) (S : ByteArray) (w : World) (h1 : (convert 22 9 v1).run Yba.prog w = .ok (.string S) w) (h2 : (convert 22 9 v2).run Yba.prog w = .ok (.string S) w) :
    Calls Yba.prog 6 #[v1, v2] w fun e w' => e = .returned (.bool true) ∧ w' = w := by
  go_enter Yba.func6, Yba.ntmps6
  go_wp2
  go_ret
  exact ⟨rfl, rfl⟩

theorem equalIn39 (d : Nat) (a : Addr) (w : World) : (Op.equalIn (d + 1) 39 (.pointer (some a)) (.pointer (some a))).run Yba.prog w = .ok true w := by
  simp [Op.equalIn, run_underlying Yba.underlying39, Yba.sizeOf5, sameAddr]
theorem neq39 (a : Addr) (w : World) : (binOp .neq 39 (.pointer (some a)) (.pointer (some a))).run Yba.prog w = .ok (.bool false) w := by
  have h := equalIn39 9999 a w
  simp only [binOp]
  simp [Op.equal, Op.maxDepth, h]

theorem q22 (w : World) (a : Option Addr) (n c n' c' : Nat) : (binOp .eql 22 (.slice a n c) (.slice none n' c')).run Yba.prog w = .ok (.bool a.isNone) w := Lib.run_eql_slice_nil w _ _ a n c n' c' Yba.underlying22

theorem n22 (w : World) (a : Option Addr) (n c n' c' : Nat) : (binOp .neq 22 (.slice a n c) (.slice none n' c')).run Yba.prog w = .ok (.bool (!a.isNone)) w := run_neq_slice_nil_any w _ _ a n c n' c' Yba.underlying22
theorem n33 (w : World) (a : Option Addr) (n c n' c' : Nat) : (binOp .neq 33 (.slice a n c) (.slice none n' c')).run Yba.prog w = .ok (.bool (!a.isNone)) w := run_neq_slice_nil_any w _ _ a n c n' c' Yba.underlying33

set_option maxHeartbeats 1000000 in
theorem same_nil (w : World) : Calls Yba.prog 5 #[.slice none 0 0, .slice none 0 0] w fun e w' => e = .returned (.bool true) ∧ ∃ q, w' = w.drewN q := by
  have q := q22
  go_enter Yba.func5, Yba.ntmps5
  go_wp2_with fail
  go_quiet (fail)
  go_wp2
  go_ret
  exact ⟨rfl, _, rfl⟩

set_option maxHeartbeats 1000000 in
theorem same_row (b n : Nat) (w : World) : Calls Yba.prog 5 #[.slice (some ⟨b, 0, none⟩) n n, .slice (some ⟨b, 0, none⟩) n n] w fun e w' => e = .returned (.bool true) ∧ ∃ q, w' = w.drewN q := by
  have q := q22
  have hp := neq39
  by_cases h : n = 0
  · subst h
    go_enter Yba.func5, Yba.ntmps5
    go_wp2_with fail
    go_quiet (fail)
    go_wp2
    go_ret
    exact ⟨rfl, _, rfl⟩
  · have h1 : (0 : Int) < (n : Int) := by omega
    have h2 : 0 < n := by omega
    have hd : decide ((0 : Int) < (n : Int)) = true := decide_eq_true h1
    go_enter Yba.func5, Yba.ntmps5
    go_wp2_with fail
    go_quiet (fail)
    go_wp2
    go_ret
    exact ⟨rfl, _, rfl⟩

/-- Is the string the three bytes of ACK? -/
def isAck (m : ByteArray) : Bool := m.toList == [65, 67, 75]

set_option maxHeartbeats 1000000 in
theorem recv_other (bt br : Nat) (m : ByteArray) (a : Option Addr) (n c : Nat) (now : Int) (w : World) (hm : w.cell? ⟨br, 0, none⟩ = some (.string m)) (hl : w.cell? ⟨bt, 6, none⟩ = some (.slice a n c)) (hne : isAck m = false) :
    Calls Yba.prog 4 #[.pointer (some ⟨bt, 0, none⟩), .pointer (some ⟨br, 0, none⟩), .int .i64 now] w fun e w' => e = .returned (.slice a n c) ∧ w' = w := by
  unfold isAck at hne
  go_enter Yba.func4, Yba.ntmps4
  go_wp2
  go_ret
  exact ⟨rfl, rfl⟩

set_option maxHeartbeats 1000000 in
theorem recv_stay (bt br : Nat) (m : ByteArray) (iv : Bool) (s : Int) (now : Int) (w : World) (hm : w.cell? ⟨br, 0, none⟩ = some (.string m)) (hs : w.cell? ⟨bt, 2, none⟩ = some (.int .u8 s)) (hi : w.cell? ⟨bt, 0, none⟩ = some (.bool iv)) (ha : isAck m = true) (hne : s = 3 → iv = false) :
    Calls Yba.prog 4 #[.pointer (some ⟨bt, 0, none⟩), .pointer (some ⟨br, 0, none⟩), .int .i64 now] w fun e w' => e = .returned (.slice none 0 0) ∧ w' = w := by
  unfold isAck at ha
  by_cases h3 : s = 3
  · obtain rfl := hne h3
    subst h3
    go_enter Yba.func4, Yba.ntmps4
    go_wp2
    go_ret
    exact ⟨rfl, rfl⟩
  · go_enter Yba.func4, Yba.ntmps4
    go_wp2
    go_ret
    exact ⟨rfl, rfl⟩

set_option maxHeartbeats 1000000 in
theorem recv_move (bt br : Nat) (m : ByteArray) (x4 x5 : Int) (ak : Bool) (now : Int) (w : World) (hm : w.cell? ⟨br, 0, none⟩ = some (.string m)) (hs : w.cell? ⟨bt, 2, none⟩ = some (.int .u8 3)) (hi : w.cell? ⟨bt, 0, none⟩ = some (.bool true))
    (h4 : w.cell? ⟨bt, 4, none⟩ = some (.int .i64 x4)) (h5 : w.cell? ⟨bt, 5, none⟩ = some (.int .i64 x5)) (h7 : w.cell? ⟨bt, 7, none⟩ = some (.bool ak)) (ha : isAck m = true) (hf : ∀ i, w.frozen? ⟨bt, i, none⟩ = false) :
    Calls Yba.prog 4 #[.pointer (some ⟨bt, 0, none⟩), .pointer (some ⟨br, 0, none⟩), .int .i64 now] w fun e w' => e = .returned (.slice none 0 0) ∧ w' = (((w.setCell ⟨bt, 7, none⟩ (.bool true)).setCell ⟨bt, 2, none⟩ (.int .u8 4)).setCell ⟨bt, 4, none⟩ (.int .i64 0)).setCell ⟨bt, 5, none⟩ (.int .i64 (wrap64 (now + 5000000000))) := by
  unfold isAck at ha
  have f7 := hf 7
  have f2 := hf 2
  have f4 := hf 4
  have f5 := hf 5
  go_enter Yba.func4, Yba.ntmps4
  go_wp2
  go_ret
  exact ⟨rfl, rfl⟩
end Go.Proofs.Ybulkekfw
