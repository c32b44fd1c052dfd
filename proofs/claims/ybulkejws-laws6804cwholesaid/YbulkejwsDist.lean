import Derived.Test.YbulkejwsProg
import Derived.WalkKit
import Derived.WalkSpells
import Derived.WalkLawsBesides
import Derived.WalkArith
import Derived.Below
import Derived.Deep.QuietTactic
import Derived.IntWalk
import Derived.Lib.SliceRun
namespace Go.Proofs.Ybulkejws
open Go.RowKit

/-- What a pointer to a duration stands for: 0 where it is nil. -/
def IsDur (w : World) (p : Option Addr) (d : Int) : Prop := (p = none ∧ d = 0) ∨ ∃ b, p = some ⟨b, 0, none⟩ ∧ w.cell? ⟨b, 0, none⟩ = some (.int .i64 d)

set_option maxHeartbeats 400000 in
theorem known_any (p : Option Addr) (d : Int) (w : World) (h : IsDur w p d) : Calls Yba.prog 9 #[.pointer p] w fun e w' => e = .returned (.int .i64 d) ∧ w' = w := by
  rcases h with ⟨rfl, rfl⟩ | ⟨b, rfl, hc⟩
  · go_enter Yba.func9, Yba.ntmps9
    go_wp2
    go_ret
    exact ⟨rfl, rfl⟩
  · go_enter Yba.func9, Yba.ntmps9
    go_wp2
    go_ret
    exact ⟨rfl, rfl⟩

theorem IsDur.alloc {w : World} {p : Option Addr} {d : Int} (h : IsDur w p d) (o : Obj) : IsDur (w.alloc o) p d := by
  rcases h with h | ⟨b, rfl, hc⟩
  · exact .inl h
  · exact .inr ⟨b, rfl, by
      have := World.block_lt_of_cell? w _ hc
      rw [← hc]
      exact World.cell?_of_block (w := w) (Below.heap_alloc _ _ _ this)⟩
theorem IsDur.drewN {w : World} {p : Option Addr} {d : Int} (h : IsDur w p d) (n : Nat) : IsDur (w.drewN n) p d := h

theorem Below.drewN' {B : Nat} {a w : World} (h : Below B a w) (n : Nat) : Below B a (w.drewN n) := ⟨h.os, h.tape, h.output, h.size, h.block⟩

/-- The half, rounded up and wrapped. -/
def halfOf (rdl d mind : Int) : Int := wrap64 ((wrap64 ((if mind < wrap64 (rdl + d) then wrap64 (rdl + d) else mind) + 1)).tdiv 2)
/-- The wrapped sum. -/
def sumOf (half rdp disp j : Int) : Int := wrap64 (wrap64 (wrap64 (half + rdp) + disp) + j)
/-- The distance: the wrapped sum, held at 2^31 seconds. -/
def distOf (half rdp disp j : Int) : Int :=
  if 2147483648000000000 < sumOf half rdp disp j then 2147483648000000000 else sumOf half rdp disp j
theorem dist_hi {half rdp disp j : Int} (h : 2147483648000000000 < sumOf half rdp disp j) : Ending.returned (.int .i64 2147483648000000000) = .returned (.int .i64 (distOf half rdp disp j)) := by
  rw [distOf, if_pos h]
theorem dist_lo {half rdp disp j : Int} (h : sumOf half rdp disp j ≤ 2147483648000000000) : Ending.returned (.int .i64 (sumOf half rdp disp j)) = .returned (.int .i64 (distOf half rdp disp j)) := by
  rw [distOf, if_neg (Int.not_lt.2 h)]

set_option maxHeartbeats 1000000 in
set_option maxRecDepth 100000 in
theorem dist_any (nm kc : ByteArray) (sl sj ss : Value) (rdl rdp : Int) (n1 n2 n3 n4 : Bool) (off : Int) (pd : Option Addr) (disp : Int) (pj : Option Addr) (mind : Int) (d j : Int) (w : World) (hd : IsDur w pd d) (hj : IsDur w pj j) :
    Calls Yba.prog 6 #[.agg #[.string nm, sl, sj, ss, .int .i64 rdl, .int .i64 rdp, .pointer none, .bool n1, .bool n2, .bool n3, .bool n4, .string kc], .agg #[.int .i64 off, .pointer pd, .int .i64 disp, .pointer pj], .int .i64 mind] w
      fun e w' => e = .returned (.int .i64 (distOf (halfOf rdl d mind) rdp disp j)) ∧ Below w.heap.size w w' := by
  go_enter Yba.func6, Yba.ntmps6
  have hd2 := (hd.alloc (.cells #[.string nm, sl, sj, ss, .int .i64 rdl, .int .i64 rdp, .pointer none, .bool n1, .bool n2, .bool n3, .bool n4, .string kc] 30)).alloc (.cells #[.int .i64 off, .pointer pd, .int .i64 disp, .pointer pj] 32)
  have hj2 := (hj.alloc (.cells #[.string nm, sl, sj, ss, .int .i64 rdl, .int .i64 rdp, .pointer none, .bool n1, .bool n2, .bool n3, .bool n4, .string kc] 30)).alloc (.cells #[.int .i64 off, .pointer pd, .int .i64 disp, .pointer pj] 32)
  go_wp2_with fail
  have G : Hid (Below w.heap.size w ((w.alloc (.cells #[.string nm, sl, sj, ss, .int .i64 rdl, .int .i64 rdp, .pointer none, .bool n1, .bool n2, .bool n3, .bool n4, .string kc] 30)).alloc (.cells #[.int .i64 off, .pointer pd, .int .i64 disp, .pointer pj] 32))) := ((Below.refl _ w).alloc (Nat.le_refl _) _).alloc (by rw [World.size_alloc]; omega) _
  have m1 : ((w.alloc (.cells #[.string nm, sl, sj, ss, .int .i64 rdl, .int .i64 rdp, .pointer none, .bool n1, .bool n2, .bool n3, .bool n4, .string kc] 30)).alloc (.cells #[.int .i64 off, .pointer pd, .int .i64 disp, .pointer pj] 32)).cell? ⟨w.heap.size, 4, none⟩ = some (.int .i64 rdl) := by simp
  have m2 : ((w.alloc (.cells #[.string nm, sl, sj, ss, .int .i64 rdl, .int .i64 rdp, .pointer none, .bool n1, .bool n2, .bool n3, .bool n4, .string kc] 30)).alloc (.cells #[.int .i64 off, .pointer pd, .int .i64 disp, .pointer pj] 32)).cell? ⟨w.heap.size, 5, none⟩ = some (.int .i64 rdp) := by simp
  have m3 : ((w.alloc (.cells #[.string nm, sl, sj, ss, .int .i64 rdl, .int .i64 rdp, .pointer none, .bool n1, .bool n2, .bool n3, .bool n4, .string kc] 30)).alloc (.cells #[.int .i64 off, .pointer pd, .int .i64 disp, .pointer pj] 32)).cell? ⟨w.heap.size + 1, 1, none⟩ = some (.pointer pd) := by simp
  have m4 : ((w.alloc (.cells #[.string nm, sl, sj, ss, .int .i64 rdl, .int .i64 rdp, .pointer none, .bool n1, .bool n2, .bool n3, .bool n4, .string kc] 30)).alloc (.cells #[.int .i64 off, .pointer pd, .int .i64 disp, .pointer pj] 32)).cell? ⟨w.heap.size + 1, 2, none⟩ = some (.int .i64 disp) := by simp
  have m5 : ((w.alloc (.cells #[.string nm, sl, sj, ss, .int .i64 rdl, .int .i64 rdp, .pointer none, .bool n1, .bool n2, .bool n3, .bool n4, .string kc] 30)).alloc (.cells #[.int .i64 off, .pointer pd, .int .i64 disp, .pointer pj] 32)).cell? ⟨w.heap.size + 1, 3, none⟩ = some (.pointer pj) := by simp
  generalize (w.alloc (.cells #[.string nm, sl, sj, ss, .int .i64 rdl, .int .i64 rdp, .pointer none, .bool n1, .bool n2, .bool n3, .bool n4, .string kc] 30)).alloc (.cells #[.int .i64 off, .pointer pd, .int .i64 disp, .pointer pj] 32) = w2 at hd2 hj2 G m1 m2 m3 m4 m5 ⊢
  go_quiet ((go_at_call 9; exact Calls.quiet_of_same (known_any pd d _ hd2)))
  have hh : IntKind.i64.wrap ((IntKind.i64.wrap ((if mind < IntKind.i64.wrap (rdl + d) then IntKind.i64.wrap (rdl + d) else mind) + 1)).tdiv 2) = halfOf rdl d mind := by simp only [IntWalk.i64_left]; rfl
  simp only [hh]
  generalize hhf : halfOf rdl d mind = half
  have HH : Hid (halfOf rdl d mind = half) := hhf
  generalize (if mind < IntKind.i64.wrap (rdl + d) then IntKind.i64.wrap (rdl + d) else mind) = M
  clear hh hhf m1 m3
  rename_i nq
  have G' : Hid (Below w.heap.size w (w2.drewN nq)) := Below.drewN' G.out nq
  clear G
  have m2 : (w2.drewN nq).cell? ⟨w.heap.size, 5, none⟩ = some (.int .i64 rdp) := m2
  have m4 : (w2.drewN nq).cell? ⟨w.heap.size + 1, 2, none⟩ = some (.int .i64 disp) := m4
  have m5 : (w2.drewN nq).cell? ⟨w.heap.size + 1, 3, none⟩ = some (.pointer pj) := m5
  have hj3 : IsDur (w2.drewN nq) pj j := hj2.drewN nq
  clear hj2 hd2
  generalize w2.drewN nq = w3 at *
  go_wp2_with fail
  go_quiet ((go_at_call 9; exact Calls.quiet_of_same (known_any pj j _ hj3)))
  have hs : IntKind.i64.wrap (IntKind.i64.wrap (IntKind.i64.wrap (half + rdp) + disp) + j) = sumOf half rdp disp j := by simp only [IntWalk.i64_left]; rfl
  simp only [hs]
  clear hs
  generalize hsm : sumOf half rdp disp j = sm
  have HS : Hid (sumOf half rdp disp j = sm) := hsm
  clear hsm
  by_cases h : 2147483648000000000 < sm
  · go_wp2
    go_ret
    rw [HH.out]
    exact ⟨dist_hi (by rw [HS.out]; exact h), Below.drewN' G'.out _⟩
  · go_wp2
    go_ret
    rw [HH.out, ← HS.out]
    exact ⟨dist_lo (by rw [HS.out]; exact h), Below.drewN' G'.out _⟩

set_option maxHeartbeats 1000000 in
set_option maxRecDepth 100000 in
theorem dist_given (nm kc : ByteArray) (sl sj ss : Value) (rdl rdp : Int) (b : Nat) (n1 n2 n3 n4 : Bool) (off : Int) (pd : Option Addr) (disp : Int) (pj : Option Addr) (mind : Int) (rd : Int) (w : World) (hc : w.cell? ⟨b, 0, none⟩ = some (.int .i64 rd)) :
    Calls Yba.prog 6 #[.agg #[.string nm, sl, sj, ss, .int .i64 rdl, .int .i64 rdp, .pointer (some ⟨b, 0, none⟩), .bool n1, .bool n2, .bool n3, .bool n4, .string kc], .agg #[.int .i64 off, .pointer pd, .int .i64 disp, .pointer pj], .int .i64 mind] w
      fun e w' => e = .returned (.int .i64 rd) ∧ Below w.heap.size w w' := by
  have m1 : ((w.alloc (.cells #[.string nm, sl, sj, ss, .int .i64 rdl, .int .i64 rdp, .pointer (some ⟨b, 0, none⟩), .bool n1, .bool n2, .bool n3, .bool n4, .string kc] 30)).alloc (.cells #[.int .i64 off, .pointer pd, .int .i64 disp, .pointer pj] 32)).cell? ⟨b, 0, none⟩ = some (.int .i64 rd) := Lib.cell?_alloc_some _ (Lib.cell?_alloc_some _ hc)
  go_enter Yba.func6, Yba.ntmps6
  go_wp2
  go_ret
  exact ⟨rfl, ((Below.refl _ w).alloc (Nat.le_refl _) _).alloc (by rw [World.size_alloc]; omega) _⟩
end Go.Proofs.Ybulkejws
