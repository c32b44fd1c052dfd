import Derived.Test.YbulkejuoProg
import Derived.WalkKit
import Derived.WalkSpells
import Derived.WalkLawsBesides
import Derived.Deep.LoopGhost
import Derived.Deep.QuietTactic
import Derived.BigQuiet
import Derived.Lib.SliceRun
import Derived.Laws.StructEq
namespace Go.Proofs.Ybulkejuo
open Go.RowKit

theorem u8_or128' (y : Int) (h0 : 0 ≤ y) (h1 : y < 128) : bits .or .u8 y 128 = 128 + y := by
  rw [u8_or y 128 h0 (by omega) (by decide) (by decide), Nat.or_comm, nat_join 7 _ _ (by decide) (by omega)]
  simp
  omega

set_option maxHeartbeats 400000 in
theorem tagOf_any (h : Int) (h0 : 0 ≤ h) (h1 : h < 18446744073709551616) (w : World) :
    Calls Yba.prog 9 #[.int .u64 h] w fun e w' => e = .returned (.int .u8 (128 + h / 144115188075855872)) ∧ w' = w := by
  go_enter Yba.func9, Yba.ntmps9
  go_wp2
  go_ret
  exact ⟨by rw [← u8_or128' _ (by omega) (by omega)]; rfl, rfl⟩

/-! ### A key: its first two bytes; the other 38 are 0 -/
def kz : List Int := List.replicate 38 0
def kis (p : Int × Int) : List Int := p.1 :: p.2 :: kz
def kcs (p : Int × Int) : List Value := (kis p).map (Value.int .u8)
def keq (x y : Int × Int) : Bool := x.1 == y.1 && x.2 == y.2
theorem kis_length (p : Int × Int) : (kis p).length = 40 := by simp [kis, kz]
theorem kcs_length (p : Int × Int) : (kcs p).length = 40 := by simp [kcs, kis_length]
theorem kis_beq (x y : Int × Int) : (kis x == kis y) = keq x y := by
  simp [kis, keq]
theorem keq_iff (x y : Int × Int) : keq x y = true ↔ x = y := by
  simp [keq, Prod.ext_iff]

theorem all_range_eqI : ∀ (xs ys : List Int), xs.length = ys.length → ((List.range xs.length).all fun i => xs.getD i 0 == ys.getD i 0) = (xs == ys)
  | [], [], _ => rfl
  | x :: xs, y :: ys, h => by
    have ih := all_range_eqI xs ys (by simpa using h)
    rw [List.length_cons, List.range_succ_eq_map, List.all_cons, List.all_map]
    simp only [List.getD_cons_zero, Function.comp_def, List.getD_cons_succ, ih]
    simp [List.cons_beq_cons]
  | [], _ :: _, h => by simp at h
  | _ :: _, [], h => by simp at h

theorem run_equalIn_ints {P : Program} (w : World) (d : Nat) (t e : TypeId) (n : Nat) (ht : P.underlying t = some (.array n e)) (he : P.underlying e = some (.int .u8)) (hsz : ∀ w, (sizeOf e).run P w = .ok 1 w)
    (xs ys : List Int) (hx : xs.length = n) (hy : ys.length = n) :
    (Op.equalIn (d + 2) t (.agg (xs.map (Value.int .u8)).toArray) (.agg (ys.map (Value.int .u8)).toArray)).run P w = .ok (xs == ys) w := by
  rw [← all_range_eqI xs ys (hx.trans hy.symm), hx, List.range_eq_range', Op.equalIn]
  simp only [Sem.run_bind, run_underlying ht, Result.andThen_ok, hsz, Std.Legacy.Range.forIn_eq_forIn_range', Std.Legacy.Range.size, Nat.sub_zero, Nat.add_sub_cancel, Nat.div_one]
  have hl : ∀ i ∈ List.range' 0 n 1, i < n := fun i hi => by simpa using (List.mem_range'_1.1 hi).2
  generalize List.range' 0 n 1 = l at hl ⊢
  induction l with
  | nil => simp
  | cons i l ih =>
    have hi : i < n := hl i (by simp)
    have px : (part e (xs.map (Value.int .u8)).toArray (i * 1)).run P w = .ok (.int .u8 (xs.getD i 0)) w := by
      simp [part, isAgg, run_underlying he, List.getElem?_eq_getElem (show i < xs.length by omega)]
    have py : (part e (ys.map (Value.int .u8)).toArray (i * 1)).run P w = .ok (.int .u8 (ys.getD i 0)) w := by
      simp [part, isAgg, run_underlying he, List.getElem?_eq_getElem (show i < ys.length by omega)]
    have pe : (Op.equalIn (d + 1) e (.int .u8 (xs.getD i 0)) (.int .u8 (ys.getD i 0))).run P w = .ok (xs.getD i 0 == ys.getD i 0) w := by
      rw [run_equalIn_int w d e .u8 .u8 _ _ he]
    simp only [List.forIn_cons, Sem.run_bind, px, py, pe, Result.andThen_ok, List.all_cons]
    cases hb : (xs.getD i 0 == ys.getD i 0)
    · simp
    · simp only [Bool.not_true, Bool.false_eq_true, if_false, Sem.run_pure, Result.andThen_ok, Bool.true_and]
      exact ih fun j hj => hl j (by simp [hj])

theorem eqlK (x y : Int × Int) (w : World) : Sem.run Yba.prog (binOp .eql 29 (.agg (kcs x).toArray) (.agg (kcs y).toArray)) w = .ok (.bool (keq x y)) w := by
  rw [run_eql_struct, kcs, kcs, run_equalIn_ints w 9998 29 5 40 Yba.underlying29 Yba.underlying5 Yba.sizeOf5 _ _ (kis_length x) (kis_length y), kis_beq]
  rfl
theorem neqK (x y : Int × Int) (w : World) : Sem.run Yba.prog (binOp .neq 29 (.agg (kcs x).toArray) (.agg (kcs y).toArray)) w = .ok (.bool (!keq x y)) w := by
  rw [run_neq_struct, kcs, kcs, run_equalIn_ints w 9998 29 5 40 Yba.underlying29 Yba.underlying5 Yba.sizeOf5 _ _ (kis_length x) (kis_length y), kis_beq]
  rfl
theorem guardK (op : BinOp) (a b : Operand) (x y : Int × Int) (w : World) : Sem.run Yba.prog (eqGuard op 29 a b (.agg (kcs x).toArray) (.agg (kcs y).toArray)) w = .ok () w :=
  run_eqGuard_agg w op 29 a b _ _ (by kernel_rfl)

/-! ### slices.Clone -/
theorem info5 : (Yba.prog.info? 5).map (fun i => (i.zero, i.size, i.bytes)) = some (some (.int .u8 0), 1, 1) := by kernel_rfl
theorem info29 : (Yba.prog.info? 29).map (fun i => (i.zero, i.size, i.bytes)) = some (some (.agg (kcs (0, 0)).toArray), 40, 40) := by kernel_rfl

set_option maxHeartbeats 400000 in
set_option maxRecDepth 100000 in
theorem cloneB_any (b off n c : Nat) (news : List Value) (w : World) (hl : news.length = n) (hn : n ≤ 1024)
    (hc : ∀ j u, news[j]? = some u → w.cell? ⟨b, off + j, none⟩ = some u) (h1 : ∀ u ∈ news, u.oneCell' = true) :
    Calls Yba.prog 4 #[.slice (some ⟨b, off, none⟩) n c] w fun e w' => ∃ v', e = .returned v' ∧ w'.ownsRow w.heap.size 5 1 v' n news ∧ v' ≠ .slice none 0 0 ∧ Below w.heap.size w w' := by
  have A : Aside (∀ j u, news[j]? = some u → w.cell? ⟨b, off + j, none⟩ = some u) := hc
  clear hc
  obtain ⟨i0, hi, hz0, hz1, hz2⟩ := info_parts info5
  have q24 : ∀ (w : World) (a : Option Addr) (n c n' c' : Nat), (binOp .eql 24 (.slice a n c) (.slice none n' c')).run Yba.prog w = .ok (.bool a.isNone) w := fun w a n c n' c' => Lib.run_eql_slice_nil w _ _ a n c n' c' Yba.underlying24
  go_enter Yba.func4, Yba.ntmps4
  go_wp2_with (at_builtin; refine wpList_append_own _ rfl _ _ 24 rfl w.heap.size 5 i0 (.int .u8 0) 1 1 Yba.underlying24 hi hz0 hz1 hz2 rfl (by decide) _ _ _ rfl (World.ownsRow_made w #[] 0 (Nat.le_refl _) (Nat.zero_le _) (by simp)) ⟨b, off, none⟩ n c news rfl ?qc1 ?qc2 ?qc3 ?qc4 ?qc5 ?qc6 ?_)
  case qc1 => rw [hl, Nat.mul_one]
  case qc2 =>
    intro j u hj
    rw [Addr.add_lit]
    exact Lib.cell?_alloc_some _ (A.out j u hj)
  case qc3 => exact h1
  case qc4 => unfold maxLen; omega
  case qc5 => omega
  case qc6 => simp
  intro v' w1 hown hgrow hnil
  go_wp2
  go_ret
  refine ⟨v', rfl, by simpa using hown, ?_, ?_⟩
  · exact hnil
  · exact ((Below.refl _ w).alloc (Nat.le_refl _) _).grown hgrow (by simp) (by intro k hk; simp [Value.ownBlock] at hk; omega)

set_option maxHeartbeats 400000 in
set_option maxRecDepth 100000 in
theorem cloneK_any (b off n c : Nat) (news : List Value) (w : World) (hl : news.length = n * 40) (hn : n ≤ 1024)
    (hc : ∀ j u, news[j]? = some u → w.cell? ⟨b, off + j, none⟩ = some u) (h1 : ∀ u ∈ news, u.oneCell' = true) :
    Calls Yba.prog 5 #[.slice (some ⟨b, off, none⟩) n c] w fun e w' => ∃ v', e = .returned v' ∧ w'.ownsRow w.heap.size 29 40 v' n news ∧ v' ≠ .slice none 0 0 ∧ Below w.heap.size w w' := by
  have A : Aside (∀ j u, news[j]? = some u → w.cell? ⟨b, off + j, none⟩ = some u) := hc
  clear hc
  obtain ⟨i0, hi, hz0, hz1, hz2⟩ := info_parts info29
  have q25 : ∀ (w : World) (a : Option Addr) (n c n' c' : Nat), (binOp .eql 25 (.slice a n c) (.slice none n' c')).run Yba.prog w = .ok (.bool a.isNone) w := fun w a n c n' c' => Lib.run_eql_slice_nil w _ _ a n c n' c' Yba.underlying25
  go_enter Yba.func5, Yba.ntmps5
  go_wp2_with (at_builtin; refine wpList_append_own _ rfl _ _ 25 rfl w.heap.size 29 i0 (.agg (kcs (0, 0)).toArray) 40 40 Yba.underlying25 hi hz0 hz1 hz2 rfl (by decide) _ _ _ rfl (World.ownsRow_made w #[] 0 (Nat.le_refl _) (Nat.zero_le _) (by simp)) ⟨b, off, none⟩ n c news rfl ?qc1 ?qc2 ?qc3 ?qc4 ?qc5 ?qc6 ?_)
  case qc1 => exact hl
  case qc2 =>
    intro j u hj
    rw [Addr.add_lit]
    exact Lib.cell?_alloc_some _ (A.out j u hj)
  case qc3 => exact h1
  case qc4 => unfold maxLen; omega
  case qc5 => omega
  case qc6 => simp
  intro v' w1 hown hgrow hnil
  go_wp2
  go_ret
  refine ⟨v', rfl, by simpa using hown, ?_, ?_⟩
  · exact hnil
  · exact ((Below.refl _ w).alloc (Nat.le_refl _) _).grown hgrow (by simp) (by intro k hk; simp [Value.ownBlock] at hk; omega)

end Go.Proofs.Ybulkejuo
