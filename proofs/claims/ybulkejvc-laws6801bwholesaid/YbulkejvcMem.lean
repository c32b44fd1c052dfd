import Derived.Test.YbulkejvcProg
import Derived.WalkKit
import Derived.WalkSpells
import Derived.WalkLawsBesides
import Derived.Deep.LoopGhost
import Derived.Deep.QuietTactic
import Derived.BigQuiet
import Derived.Lib.SliceRun
namespace Go.Proofs.Ybulkejvc
open Go.RowKit

/-- A slice of strings that can be read: nil means empty; where there is an element, its cells hold the strings. -/
def Vals (w : World) (a : Option Addr) (l : Nat) (s : Nat → ByteArray) : Prop :=
  (a = none → l = 0) ∧ (0 < l → ∃ b o, a = some ⟨b, o, none⟩ ∧ ∀ j, j < l → w.cell? ⟨b, o + j, none⟩ = some (.string (s j)))

theorem Vals.below {w w' : World} {a : Option Addr} {l : Nat} {s : Nat → ByteArray} (h : Vals w a l s) (hb : Below w.heap.size w w') : Vals w' a l s :=
  ⟨h.1, fun hl => by
    obtain ⟨b, o, rfl, hc⟩ := h.2 hl
    exact ⟨b, o, rfl, fun j hj => cell_later hb (hc j hj)⟩⟩
theorem Vals.drewN {w : World} {a : Option Addr} {l : Nat} {s : Nat → ByteArray} (h : Vals w a l s) (n : Nat) : Vals (w.drewN n) a l s :=
  ⟨h.1, fun hl => by
    obtain ⟨b, o, rfl, hc⟩ := h.2 hl
    exact ⟨b, o, rfl, fun j hj => by rw [World.cell?_drewN]; exact hc j hj⟩⟩

set_option maxHeartbeats 400000 in
set_option maxRecDepth 100000 in
/-- zzs6801beqvals at two slices of strings that hold the same. -/
theorem eqvals_same (a a' : Option Addr) (l c c' : Nat) (s : Nat → ByteArray) (w : World) (ha : a.isNone = a'.isNone) (h1 : Vals w a l s) (h2 : Vals w a' l s) (hl : l ≤ 1048576) :
    Calls Yba.prog 7 #[.slice a l c, .slice a' l c'] w fun e w' => e = .returned (.bool true) ∧ ∃ q, w' = w.drewN q := by
  have q23 : ∀ (w : World) (a : Option Addr) (n c n' c' : Nat), (binOp .eql 23 (.slice a n c) (.slice none n' c')).run Yba.prog w = .ok (.bool a.isNone) w := fun w a n c n' c' => Lib.run_eql_slice_nil w _ _ a n c n' c' Yba.underlying23
  by_cases hl0 : l = 0
  · subst hl0
    clear h1 h2
    go_enter Yba.func7, Yba.ntmps7
    go_wp2
    refine wp_loop_rounds 1 ?_
    rw [rounds_succ]
    go_wp2
    go_ret
    exact ⟨rfl, 0, rfl⟩
  · obtain ⟨b, o, rfl, hc1⟩ := h1.2 (by omega)
    obtain ⟨b', o', rfl, hc2⟩ := h2.2 (by omega)
    clear h1 h2 ha
    go_enter Yba.func7, Yba.ntmps7
    go_wp2
    go_loopg [18] l (fun g s18 wr => ∃ k q : Nat, k ≤ l ∧ l - k ≤ g ∧ s18 = .int .i64 k ∧ wr = w.drewN q)
    case atStart => exact ⟨0, 0, Nat.zero_le _, by omega, rfl, rfl⟩
    case round =>
      obtain ⟨k, q, hk, hg, rfl, rfl⟩ := hrel
      by_cases hlt : k < l
      · have g1 := hc1 k hlt
        have g2 := hc2 k hlt
        clear hc1 hc2
        generalize s k = x at g1 g2
        go_wp2_with fail
        go_quiet (fail)
        go_wp2
        go_roundg (l - (k + 1))
        case measure => omega
        case rel => exact ⟨k + 1, q + nq, by omega, by omega, by go_num, rfl⟩
      · clear hc1 hc2
        go_wp2
        go_ret
        exact ⟨rfl, q, rfl⟩

/-! ### slices.Index, slices.Contains at strings -/
theorem bytes_inj {x y : ByteArray} (h : x.toList = y.toList) : x = y := by
  rw [ByteArray.toList_eq, ByteArray.toList_eq] at h
  exact ByteArray.ext (Array.toList_inj.mp h)
theorem bytes_ne {x y : ByteArray} (h : ¬ x = y) : (x.toList == y.toList) = false := by
  rw [beq_eq_false_iff_ne]
  exact fun e => h (bytes_inj e)
set_option maxHeartbeats 400000 in
set_option maxRecDepth 100000 in
theorem index_any (a : Option Addr) (m c : Nat) (ts : Nat → ByteArray) (x : ByteArray) (w : World) (h : Vals w a m ts) (hm : m ≤ 4096) :
    Calls Yba.prog 8 #[.slice a m c, .string x] w fun e w' => w' = w ∧ ((∃ j, j < m ∧ ts j = x ∧ e = .returned (.int .i64 (j : Int))) ∨ ((∀ j, j < m → ts j ≠ x) ∧ e = .returned (.int .i64 (-1)))) := by
  by_cases hm0 : m = 0
  · subst hm0
    clear h
    go_enter Yba.func8, Yba.ntmps8
    go_wp2
    refine wp_loop_rounds 1 ?_
    rw [rounds_succ]
    go_wp2
    go_ret
    exact ⟨rfl, .inr ⟨fun j hj => absurd hj (Nat.not_lt_zero _), rfl⟩⟩
  · obtain ⟨b, o, rfl, hc⟩ := h.2 (by omega)
    clear h
    go_enter Yba.func8, Yba.ntmps8
    go_wp2
    go_loopg [8] m (fun g s8 wr => ∃ k : Nat, k ≤ m ∧ m - k ≤ g ∧ s8 = .int .i64 k ∧ wr = w ∧ Aside (∀ j, j < k → ts j ≠ x))
    case atStart => exact ⟨0, Nat.zero_le _, by omega, rfl, rfl, fun j hj => absurd hj (Nat.not_lt_zero _)⟩
    case round =>
      obtain ⟨k, hk, hg, rfl, rfl, A⟩ := hrel
      by_cases hlt : k < m
      · have g1 := hc k hlt
        clear hc
        by_cases hx : ts k = x
        · rw [hx] at g1
          go_wp2
          go_ret
          exact ⟨rfl, .inl ⟨k, hlt, hx, rfl⟩⟩
        · have hne : (x.toList == (ts k).toList) = false := by
            rw [beq_eq_false_iff_ne]
            intro e
            exact hx (bytes_inj e).symm
          go_wp2
          go_roundg (m - (k + 1))
          case measure => omega
          case rel =>
            refine ⟨k + 1, by omega, by omega, by go_num, rfl, (show Aside _ from fun j hj => ?_)⟩
            by_cases e : j = k
            · subst e; exact hx
            · exact A.out j (by omega)
      · clear hc
        have : k = m := by omega
        subst this
        go_wp2
        go_ret
        exact ⟨rfl, .inr ⟨A.out, rfl⟩⟩

set_option maxHeartbeats 400000 in
theorem contains_yes (a : Option Addr) (m c : Nat) (ts : Nat → ByteArray) (x : ByteArray) (w : World) (h : Vals w a m ts) (hm : m ≤ 4096) (hx : ∃ j, j < m ∧ ts j = x) :
    Calls Yba.prog 6 #[.slice a m c, .string x] w fun e w' => e = .returned (.bool true) ∧ w' = w := by
  have H : Hid (∃ j, j < m ∧ ts j = x) := hx
  clear hx
  go_enter Yba.func6, Yba.ntmps6
  go_wp2_with fail
  refine (index_any a m c ts x w h hm).mono ?_
  rintro e w' ⟨rfl, ⟨j, hj, _, rfl⟩ | ⟨hno, rfl⟩⟩
  · go_wp2
    go_ret
    exact ⟨rfl, rfl⟩
  · obtain ⟨j, hj, e⟩ := H.out
    exact absurd e (hno j hj)
set_option maxHeartbeats 400000 in
theorem contains_no (a : Option Addr) (m c : Nat) (ts : Nat → ByteArray) (x : ByteArray) (w : World) (h : Vals w a m ts) (hm : m ≤ 4096) (hx : ∀ j, j < m → ts j ≠ x) :
    Calls Yba.prog 6 #[.slice a m c, .string x] w fun e w' => e = .returned (.bool false) ∧ w' = w := by
  have H : Hid (∀ j, j < m → ts j ≠ x) := hx
  clear hx
  go_enter Yba.func6, Yba.ntmps6
  go_wp2_with fail
  refine (index_any a m c ts x w h hm).mono ?_
  rintro e w' ⟨rfl, ⟨j, hj, e, rfl⟩ | ⟨hno, rfl⟩⟩
  · exact absurd e (H.out j hj)
  · clear hno
    go_wp2
    go_ret
    exact ⟨rfl, rfl⟩

end Go.Proofs.Ybulkejvc
