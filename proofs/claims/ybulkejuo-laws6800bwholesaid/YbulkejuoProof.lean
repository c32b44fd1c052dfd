import Derived.Test.YbulkejuoRows
import Derived.Test.YbulkejuoLaw
import Derived.ProofKit
import Derived.OpenShut
import Derived.ChangeOld
import Derived.Below
import Derived.Deep.SlicePairs
namespace Go.Proofs.Ybulkejuo.lawS6800B
open Go.ChangeShapes Go.WideShapes Go.ChangeAt Go.RowKit Go.Deep

theorem own : ownKnob Yba.prog.godebug = none := by kernel_rfl
theorem laidOut : laidOutB Yba.prog = true := by kernel_rfl

/-! ### More than 2^20 cells: true at once -/
set_option maxHeartbeats 400000 in
set_option maxRecDepth 100000 in
theorem law_many (a : Int) (ao : Option Addr) (n cap : Nat) (qv h : Int) (w : World) (hn : 1048576 < n) :
    Calls Yba.prog 3 #[.int .u8 a, .slice ao n cap, .int .u8 qv, .int .u64 h] w fun e w' => e = .returned (.bool true) ∧ Below w.heap.size w w' := by
  have hn' : (1048576 : Int) < (n : Int) := by omega
  go_enter Yba.func3, Yba.ntmps3
  go_wp2
  go_ret
  exact ⟨rfl, Below.refl _ _⟩

/-- What the walk is told of the cells' slice. -/
def IsCells (w : World) (ao : Option Addr) (n : Nat) : Prop :=
  0 < n → ∃ (cb co : Nat) (T K : Nat → Int), ao = some ⟨cb, co, none⟩ ∧ cb < w.heap.size ∧ ∀ j, j < n → w.cell? ⟨cb, co + j * 2, none⟩ = some (.int .u8 (T j)) ∧ w.cell? ⟨cb, co + j * 2 + 1, none⟩ = some (.int .u8 (K j)) ∧ 0 ≤ T j ∧ T j < 256 ∧ 0 ≤ K j ∧ K j < 256

theorem walk (a : Int) (ao : Option Addr) (n cap : Nat) (qv h : Int) (w : World) (w0 : (Lit.int .u8 a).wf = true) (w2 : (Lit.int .u8 qv).wf = true) (w3 : (Lit.int .u64 h).wf = true) (hc : IsCells w ao n) :
    Calls Yba.prog 3 #[.int .u8 a, .slice ao n cap, .int .u8 qv, .int .u64 h] w fun e w' => e = .returned (.bool true) ∧ Below w.heap.size w w' := by
  obtain ⟨a0, a1⟩ := bounds_u8 w0
  obtain ⟨q0, q1⟩ := bounds_u8 w2
  obtain ⟨h0, h1⟩ := bounds_u64 w3
  by_cases hn : n ≤ 1048576
  · refine law_walk a ao n cap (2 ^ (a % 11).toNat) qv h w h0 (by omega) a0 (by omega) q0 (by omega) hn (by simp) (size_pow _ (by omega)) hc
  · exact law_many a ao n cap qv h w (by omega)

theorem opened {H : Type} {enc : TypeId × Value → H} {W : World} {ao : Option Addr} {len cap : Nat} {d : DataW H} {p : List MemPlace} (h : DataW.Trod enc Yba.prog W 0 (fun _ => true) true 22 (.slice ao len cap) d p) : IsCells W ao len := by
  intro hpos
  obtain ⟨fuel, hf⟩ := h
  rcases open_slice_pairs Yba.underlying22 Yba.underlying27 (by kernel_rfl) rfl rfl (by kernel_rfl) (by kernel_rfl) hf with ⟨hcs, _⟩ | ⟨x, l, c, m, n, V0, V1, D0, D1, P0, P1, hcs, _, hl, _, hm, _, hcell⟩
  · simp [Value.cells] at hcs
    omega
  · simp [Value.cells] at hcs
    obtain ⟨rfl, rfl, rfl⟩ := hcs
    simp only [if_true] at hm
    subst hm
    obtain ⟨b, off, spot⟩ := x
    have hspot : spot = none := by simpa [Addr.add] using World.cell?_spot (hcell 0 (by omega)).1
    subst hspot
    have hlt : b < W.heap.size := World.block_lt_of_cell? W _ (by simpa using (hcell 0 (by omega)).1)
    have each : ∀ j, j < len → ∃ q : Int × Int, W.cell? ⟨b, off + j * 2, none⟩ = some (.int .u8 q.1) ∧ W.cell? ⟨b, off + j * 2 + 1, none⟩ = some (.int .u8 q.2) ∧ 0 ≤ q.1 ∧ q.1 < 256 ∧ 0 ≤ q.2 ∧ q.2 < 256 := by
      intro j hj
      obtain ⟨c0, c1, t0, t1⟩ := hcell j (by omega)
      obtain ⟨x, e0, _, wx⟩ := DataW.trod_int Yba.underlying5 t0
      obtain ⟨y, e1, _, wy⟩ := DataW.trod_int Yba.underlying5 t1
      simp at e0 e1
      rw [Addr.add_mid, e0] at c0
      rw [Addr.add_mid, e1] at c1
      have bx := bounds_u8 wx
      have bY := bounds_u8 wy
      exact ⟨(x, y), c0, c1, bx.1, by show x < 256; omega, bY.1, by show y < 256; omega⟩
    obtain ⟨f, hf⟩ := choose_lt each
    exact ⟨b, off, fun j => (f j).1, fun j => (f j).2, rfl, hlt, hf⟩

set_option maxRecDepth 100000 in
theorem lifted (os : Os) (started : os.Started) (H : Type) (enc : TypeId × Value → H) :
    ReturnsInHanded {} Yba.checked os 3 .any (Rows.lawS6800BWholeSpec.pre6 enc Yba.prog Yba.f3 Rows.lawS6800BWholeRow.domain false) (Rows.lawS6800BWholeSpec.post enc Yba.prog Yba.f3 false true false false) := by
  refine returnsInHanded_of_change (C := Yba.checked) own started (by kernel_rfl) Yba.func3
    (ChangeSpec.witness6 (enc := enc) (C := Yba.checked) false ⟨#[], #[.int .u8 0, .slice none 0 0, .int .u8 0, .int .u64 0], []⟩ 8 (by kernel_rfl) (by kernel_rfl) (by kernel_rfl) (by kernel_rfl)) ?_
  intro W base args ds gs before hval0 hW hcnd _
  have hval : ∀ (j : Nat) t v, Yba.f3.params[j]? = some t → args[j]? = some v → Value.okWide Yba.prog W .any base t v := hval0
  have hW' := hW
  obtain ⟨p, q, hA0, hV, rfl, hfz, hnd⟩ := hW
  have hA : DataW.TrodAll enc Yba.prog W 0 (fun _ => true) true Yba.f3.params.toList args.toList ds p := hA0
  rw [Yba.params3] at hA hval
  obtain ⟨v0, vs0, d0, ds0, p0, q0, hargs, rfl, rfl, h0, r0⟩ := trodAll_cons hA
  obtain ⟨v1, vs1, d1, ds1, p1, q1, rfl, rfl, rfl, h1, r1⟩ := trodAll_cons r0
  obtain ⟨v2, vs2, d2, ds2, p2, q2, rfl, rfl, rfl, h2, r2⟩ := trodAll_cons r1
  obtain ⟨v3, vs3, d3, ds3, p3, q3, rfl, rfl, rfl, h3, r3⟩ := trodAll_cons r2
  obtain ⟨rfl, rfl, rfl⟩ := trodAll_nil r3
  obtain rfl : args = #[v0, v1, v2, v3] := by cases args; simp_all
  obtain ⟨rfl, rfl⟩ := trodVars_none hV
  obtain ⟨a0, rfl, rfl, rfl, w0⟩ := open_int Yba.underlying5 (hval 0 5 v0 rfl rfl) h0
  obtain ⟨a1, len1, cap1, rfl⟩ := okWide_slice Yba.underlying22 (hval 1 22 v1 rfl rfl)
  have k1 := h1
  have lt1 : ∀ x ∈ p1, x.block < W.heap.size := by obtain ⟨m, hm⟩ := k1; exact DataW.trod_lt m _ _ _ hm
  obtain ⟨a2, rfl, rfl, rfl, w2⟩ := open_int Yba.underlying5 (hval 2 5 v2 rfl rfl) h2
  obtain ⟨a3, rfl, rfl, rfl, w3⟩ := open_int Yba.underlying23 (hval 3 23 v3 rfl rfl) h3
  clear hA0 hval0
  refine (walk a0 a1 len1 cap1 a2 a3 W w0 w2 w3 (opened h1)).mono fun e W' ⟨he, bel⟩ => ?_
  subst he
  exact ⟨_, rfl, _, _, _, [], _, [], hW', trodAll_mk1 (shut_bool Yba.underlying4 _), (trodAll_cons_mk (shut_int Yba.underlying5 w0) (trodAll_cons_mk (Below.trod laidOut (by kernel_rfl) (of_decide_eq_true (by kernel_rfl)) k1 bel lt1) (trodAll_cons_mk (shut_int Yba.underlying5 w2) (trodAll_cons_mk (shut_int Yba.underlying23 w3) trodAll_mk0)))), rfl, bel.frame _, fun h => by cases h⟩

theorem over : Rows.lawS6800BWholeRow.holds Yba.pinned (OpenSpec.ofChange Rows.lawS6800BWholeSpec) :=
  OpenClaim.holds_of_wide 3 Yba.f3 rfl rfl rfl rfl rfl rfl rfl ⟨rfl, rfl, rfl, rfl, rfl⟩ rfl rfl rfl rfl rfl (by kernel_rfl) Yba.func3 (by kernel_rfl)
    (of_decide_eq_true (by kernel_rfl)) (by unfold Func.isWrapper; first | (rw [if_pos (by decide +kernel)]; kernel_rfl) | (rw [if_neg (by decide +kernel)]; exact ⟨rfl, rfl⟩))
    (fun os started H enc _ => lifted os started H enc)

end Go.Proofs.Ybulkejuo.lawS6800B

namespace Go.Proofs.Ybulkejuo
/-- THE STATEMENT -/
theorem lawS6800BWhole_holds : Rows.LawS6800BWholeSaid := lawS6800B.over
end Go.Proofs.Ybulkejuo
