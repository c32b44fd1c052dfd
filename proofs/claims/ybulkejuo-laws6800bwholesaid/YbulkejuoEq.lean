import Derived.Test.YbulkejuoLib
import Derived.Deep.MidRow
namespace Go.Proofs.Ybulkejuo
open Go.RowKit

/-- In a region that draws its order and only reads: a load of a whole row out of the midst of a block. -/
theorem quiet_load_mid {P : Program} {o : Oper} {a : Act} {w : World} {K : Act → Prop} (ty : TypeId) (x : Operand) (ho : o.op = .load ty x)
    (b off : Nat) (hx : a.eval x = .pointer (some ⟨b, off, none⟩)) (cs : List Value) (d : TypeDesc) (hc : w.rangeAt b off cs)
    (hu : P.underlying ty = some d) (hd : d.isRow = true) (hi : (P.info? ty).map (·.size) = some cs.length)
    (hk : K (a.put o.dst (.agg cs.toArray))) : o.quiet P a (fun w' => ∃ n, w' = w.drewN n) K := by
  refine ⟨_, ?_, hk⟩
  rintro w' ⟨n, rfl⟩
  have hc' : (w.drewN n).rangeAt b off cs := fun j v hv => by rw [World.cell?_drewN]; exact hc j v hv
  unfold Oper.quietAt execOp
  simp only [ho, hx, Instr.loadAt, Instr.sureAddr, Sem.run_bind, Sem.run_pure, Result.andThen_ok, run_loadVar_mid (w.drewN n) b off ty cs d hc' hu hd hi]
  exact ⟨rfl, rfl⟩

set_option maxHeartbeats 400000 in
set_option maxRecDepth 100000 in
/-- slices.Equal at two byte slices of one length that hold the same. -/
theorem equalB_same (b1 o1 b2 o2 n c d : Nat) (t : Nat → Int) (w : World) (hn : n ≤ 1024)
    (hc1 : ∀ j, j < n → w.cell? ⟨b1, o1 + j, none⟩ = some (.int .u8 (t j))) (hc2 : ∀ j, j < n → w.cell? ⟨b2, o2 + j, none⟩ = some (.int .u8 (t j))) :
    Calls Yba.prog 7 #[.slice (some ⟨b1, o1, none⟩) n c, .slice (some ⟨b2, o2, none⟩) n d] w fun e w' => e = .returned (.bool true) ∧ ∃ q, w' = w.drewN q := by
  go_enter Yba.func7, Yba.ntmps7
  go_wp2
  go_loopg [13] n (fun g s13 wr => ∃ k q : Nat, k ≤ n ∧ n - k ≤ g ∧ s13 = .int .i64 k ∧ wr = w.drewN q)
  case atStart => exact ⟨0, 0, Nat.zero_le _, by omega, rfl, rfl⟩
  case round =>
    obtain ⟨k, q, hk, hg, rfl, rfl⟩ := hrel
    by_cases hlt : k < n
    · have g1 := hc1 k hlt
      have g2 := hc2 k hlt
      clear hc1 hc2
      generalize t k = x at g1 g2
      go_wp2_with fail
      go_quiet (fail)
      go_wp2
      go_roundg (n - (k + 1))
      case measure => omega
      case rel => exact ⟨k + 1, q + nq, by omega, by omega, by go_num, rfl⟩
    · clear hc1 hc2
      go_wp2
      go_ret
      exact ⟨rfl, q, rfl⟩

theorem size29 : (Yba.prog.info? 29).map (·.size) = some 40 := by kernel_rfl
theorem kcs_one (p : Int × Int) : ∀ v ∈ kcs p, v.oneCell' = true := by
  intro v hv
  simp only [kcs, List.mem_map] at hv
  obtain ⟨a, _, rfl⟩ := hv
  rfl

set_option maxHeartbeats 400000 in
set_option maxRecDepth 100000 in
/-- slices.Equal at two slices of keys of one length that hold the same. -/
theorem equalK_same (b1 o1 b2 o2 n c d : Nat) (t : Nat → Int × Int) (w : World) (hn : n ≤ 1024)
    (hc1 : ∀ j, j < n → w.rangeAt b1 (o1 + j * 40) (kcs (t j))) (hc2 : ∀ j, j < n → w.rangeAt b2 (o2 + j * 40) (kcs (t j))) :
    Calls Yba.prog 8 #[.slice (some ⟨b1, o1, none⟩) n c, .slice (some ⟨b2, o2, none⟩) n d] w fun e w' => e = .returned (.bool true) ∧ ∃ q, w' = w.drewN q := by
  have hne := neqK
  have hgd := guardK
  have hu := Yba.underlying29
  go_enter Yba.func8, Yba.ntmps8
  go_wp2
  go_loopg [13] n (fun g s13 wr => ∃ k q : Nat, k ≤ n ∧ n - k ≤ g ∧ s13 = .int .i64 k ∧ wr = w.drewN q)
  case atStart => exact ⟨0, 0, Nat.zero_le _, by omega, rfl, rfl⟩
  case round =>
    obtain ⟨k, q, hk, hg, rfl, rfl⟩ := hrel
    by_cases hlt : k < n
    · have g1 : (w.drewN q).rangeAt b1 (o1 + k * 40) (kcs (t k)) := fun j v hv => by rw [World.cell?_drewN]; exact hc1 k hlt j v hv
      have g2 : (w.drewN q).rangeAt b2 (o2 + k * 40) (kcs (t k)) := fun j v hv => by rw [World.cell?_drewN]; exact hc2 k hlt j v hv
      clear hc1 hc2
      generalize t k = x at g1 g2
      have hi : (Yba.prog.info? 29).map (·.size) = some (kcs x).length := by rw [size29, kcs_length]
      have hl := kcs_length x
      have h1 := kcs_one x
      generalize hwq : w.drewN q = wq at g1 g2 ⊢
      have hxx : keq x x = true := (keq_iff x x).2 rfl
      have hk0 : (0 : Int) ≤ (k : Int) := Int.natCast_nonneg _
      have hk8 : (k : Int) < (n : Int) := by omega
      go_wp2_with fail
      refine wp_region_quiet_lit (by kernel_rfl) (by kernel_rfl) ?_
      repeat (first | (go_big_quiet_want; (first | refine quiet_load_mid 29 _ rfl _ _ rfl _ _ g1 hu rfl hi ?_ | refine quiet_load_mid 29 _ rfl _ _ rfl _ _ g2 hu rfl hi ?_); (simp only [Act.put, List.setIfInBounds_toArray, List.set_cons_zero, List.set_cons_succ]); go_big_quiet_on) | go_big_quiet_step (fail))
      refine wpQuiet_nil ?_
      rintro _ ⟨nq, rfl⟩
      go_wp2
      go_roundg (n - (k + 1))
      case measure => omega
      case rel => exact ⟨k + 1, q + nq, by omega, by omega, by go_num, by rw [← hwq, World.drewN_drewN]⟩
    · clear hc1 hc2
      go_wp2
      go_ret
      exact ⟨rfl, q, rfl⟩

end Go.Proofs.Ybulkejuo
