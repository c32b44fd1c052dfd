import Derived.Test.YbulkejvcRows
import Derived.Test.YbulkejvcLaw
import Derived.ProofKit
import Derived.OpenShut
import Derived.ChangeOld
import Derived.Below
import Derived.SliceStrings
import Derived.SizedLaws
import Derived.Deep.SlicePairs
namespace Go.Proofs.Ybulkejvc.lawS6801B
open Go.ChangeShapes Go.WideShapes Go.ChangeAt Go.RowKit Go.Deep

theorem own : ownKnob Yba.prog.godebug = none := by kernel_rfl
theorem laidOut : laidOutB Yba.prog = true := by kernel_rfl
theorem bytes9 : Yba.prog.bytesOf 9 = 16 := by kernel_rfl

/-! ### More than 4096 rules: true at once -/
set_option maxHeartbeats 400000 in
set_option maxRecDepth 100000 in
theorem law_many (ao : Option Addr) (n c : Nat) (w : World) (hn : 4096 < n) :
    Calls Yba.prog 3 #[.slice ao n c] w fun e w' => e = .returned (.bool true) ∧ Below w.heap.size w w' := by
  have hn' : (4096 : Int) < (n : Int) := by omega
  go_enter Yba.func3, Yba.ntmps3
  go_wp2
  go_ret
  exact ⟨rfl, Below.refl _ _⟩

/-! ### What the reading gives -/
theorem mem_weightsAll {H : Type} {P : Program} {e : TypeId} {d : DataW H} {n : Nat} : ∀ {ds : List (DataW H)}, d ∈ ds → n ∈ d.weights P e → n ∈ DataW.weightsAll P e ds
  | [], h, _ => by cases h
  | d0 :: r, h, hn => by
    rw [DataW.weightsAll, List.mem_append]
    rcases List.mem_cons.1 h with rfl | h
    · exact .inl hn
    · exact .inr (mem_weightsAll h hn)

/-- One rule's reading: the type's string, the values' slice. -/
theorem one {H : Type} {enc : TypeId × Value → H} {W : World} {fuel : Nat} {v0 v1 : Value} {d0 d1 : DataW H} {p0 p1 : List MemPlace} (h0 : DataW.trod enc Yba.prog W 0 (fun _ => true) true fuel 9 [v0] = some (d0, p0))
    (h1 : DataW.trod enc Yba.prog W 0 (fun _ => true) true fuel 23 [v1] = some (d1, p1)) (hw : ∀ n ∈ (DataW.agg [d0, d1]).weights Yba.prog 25, n ≤ reachBytes) :
    ∃ (t : ByteArray) (a : Option Addr) (l c : Nat) (s : Nat → ByteArray), v0 = .string t ∧ v1 = .slice a l c ∧ t.size ≤ maxLen ∧ l ≤ 8796093022208 ∧ Vals W a l s := by
  obtain ⟨t, e0, _, ht⟩ := DataW.trod_string Yba.underlying9 h0
  simp at e0
  rcases open_strings Yba.underlying23 Yba.underlying9 (by kernel_rfl) h1 with ⟨hcs, _⟩ | ⟨a, len, cap, ss, hcs, _, hl, _, hz, hx, hcell, _⟩
  · simp at hcs
    exact ⟨t, none, 0, 0, fun _ => ByteArray.empty, e0, hcs, ht, Nat.zero_le _, fun _ => rfl, fun h => absurd h (Nat.lt_irrefl 0)⟩
  · simp at hcs
    simp only [if_true] at hz
    simp only [Prod.mk.injEq] at hx
    obtain ⟨rfl, rfl⟩ := hx
    have hlen : len ≤ 8796093022208 := by
      have := hw ((ss.take len).length * 16 + (ss.drop len).length * 16) (by
        simp only [DataW.weights, Yba.underlying25, List.map_cons, List.map_nil, DataW.weightsEach, List.mem_append]
        right; left
        simp [Yba.underlying23, bytes9, strs]
        left
        omega)
      simp [reachBytes] at this
      omega
    refine ⟨t, some a, len, cap, fun j => ss.getD j ByteArray.empty, e0, hcs, ht, hlen, fun h => by (cases h), fun hpos => ?_⟩
    obtain ⟨b, off, spot⟩ := a
    have hspot : spot = none := by simpa [Addr.add] using World.cell?_spot (hcell 0 (by omega))
    subst hspot
    exact ⟨b, off, rfl, fun j hj => by rw [← Addr.add_mid]; exact hcell j (by omega)⟩

theorem opened {H : Type} {enc : TypeId × Value → H} {W : World} {ao : Option Addr} {len cap : Nat} {d : DataW H} {p : List MemPlace} (h : DataW.Trod enc Yba.prog W 0 (fun _ => true) true 22 (.slice ao len cap) d p)
    (hw : ∀ n ∈ d.weights Yba.prog 22, n ≤ reachBytes) : ∃ T A L C s, Given W ao len T A L C s := by
  obtain ⟨fuel, hf⟩ := h
  rcases open_slice_pairs Yba.underlying22 Yba.underlying25 (by kernel_rfl) rfl rfl (by kernel_rfl) (by kernel_rfl) hf with ⟨hcs, _⟩ | ⟨x, l, c, m, n, V0, V1, D0, D1, P0, P1, hcs, _, hl, _, hm, hx, hcell⟩
  · simp [Value.cells] at hcs
    obtain ⟨rfl, rfl, rfl⟩ := hcs
    exact ⟨fun _ => ByteArray.empty, fun _ => none, fun _ => 0, fun _ => 0, fun _ _ => ByteArray.empty, fun _ => rfl, fun i hi => absurd hi (Nat.not_lt_zero _), fun i hi => absurd hi (Nat.not_lt_zero _), fun hi => absurd hi (Nat.lt_irrefl 0)⟩
  · simp [Value.cells] at hcs
    obtain ⟨rfl, rfl, rfl⟩ := hcs
    simp only [if_true] at hm
    subst hm
    simp only [Prod.mk.injEq] at hx
    obtain ⟨rfl, rfl⟩ := hx
    by_cases h0 : len = 0
    · subst h0
      exact ⟨fun _ => ByteArray.empty, fun _ => none, fun _ => 0, fun _ => 0, fun _ _ => ByteArray.empty, fun _ => rfl, fun i hi => absurd hi (Nat.not_lt_zero _), fun i hi => absurd hi (Nat.not_lt_zero _), fun hi => absurd hi (Nat.lt_irrefl 0)⟩
    obtain ⟨b, off, spot⟩ := x
    have hspot : spot = none := by simpa [Addr.add] using World.cell?_spot (hcell 0 (by omega)).1
    subst hspot
    have each : ∀ j, j < len → ∃ q : ByteArray × Option Addr × Nat × Nat × (Nat → ByteArray), V0 j = .string q.1 ∧ V1 j = .slice q.2.1 q.2.2.1 q.2.2.2.1 ∧ q.1.size ≤ maxLen ∧ q.2.2.1 ≤ 8796093022208 ∧ Vals W q.2.1 q.2.2.1 q.2.2.2.2 := by
      intro j hj
      obtain ⟨_, _, t0, t1⟩ := hcell j (by omega)
      obtain ⟨t, a, l, c, s, h1, h2, h3, h4, h5⟩ := one t0 t1 (fun k hk => hw k (by
        rw [DataW.weights, Yba.underlying22]
        simp only [List.mem_cons, List.mem_append]
        right; left
        exact mem_weightsAll (List.mem_map.2 ⟨j, List.mem_range.2 hj, rfl⟩) hk))
      exact ⟨(t, a, l, c, s), h1, h2, h3, h4, h5⟩
    obtain ⟨f, hf⟩ := choose_lt each
    refine ⟨fun j => (f j).1, fun j => (f j).2.1, fun j => (f j).2.2.1, fun j => (f j).2.2.2.1, fun j => (f j).2.2.2.2, fun h => by (cases h), fun i hi => (hf i hi).2.2.1, fun i hi => (hf i hi).2.2.2.1, fun _ => ⟨b, off, rfl, fun i hi => ?_⟩⟩
    obtain ⟨c0, c1, _, _⟩ := hcell i (by omega)
    obtain ⟨e0, e1, _, _, hv⟩ := hf i hi
    rw [Addr.add_mid, e0] at c0
    rw [Addr.add_mid, e1] at c1
    exact ⟨c0, c1, hv⟩

theorem walk (ao : Option Addr) (n c : Nat) (w : World) (h : ∃ T A L C s, Given w ao n T A L C s) :
    Calls Yba.prog 3 #[.slice ao n c] w fun e w' => e = .returned (.bool true) ∧ Below w.heap.size w w' := by
  obtain ⟨T, A, L, C, s, hG⟩ := h
  by_cases hn : n ≤ 4096
  · exact law_walk ao n c T A L C s w hn hG
  · exact law_many ao n c w (by omega)

set_option maxRecDepth 100000 in
theorem lifted (os : Os) (started : os.Started) (H : Type) (enc : TypeId × Value → H) :
    ReturnsInHanded {} Yba.checked os 3 .any (Rows.lawS6801BWholeSpec.pre6 enc Yba.prog Yba.f3 Rows.lawS6801BWholeRow.domain false) (Rows.lawS6801BWholeSpec.post enc Yba.prog Yba.f3 false true false false) := by
  refine returnsInHanded_of_change_sized (C := Yba.checked) own started (by kernel_rfl) Yba.func3
    (ChangeSpec.witness6 (enc := enc) (C := Yba.checked) false ⟨#[], #[.slice none 0 0], []⟩ 8 (by kernel_rfl) (by kernel_rfl) (by kernel_rfl) (by kernel_rfl)) ?_
  intro W base args ds gs before hval0 hW hcnd hsz0 _
  have hsz : (DataW.weightsEach Yba.prog (Yba.f3.params.toList ++ Rows.lawS6801BWholeSpec.plain.varTypes Yba.prog) (ds ++ gs)).all (· ≤ reachBytes) = true := hsz0
  have hval : ∀ (j : Nat) t v, Yba.f3.params[j]? = some t → args[j]? = some v → Value.okWide Yba.prog W .any base t v := hval0
  have hW' := hW
  obtain ⟨p, q, hA0, hV, rfl, hfz, hnd⟩ := hW
  have hA : DataW.TrodAll enc Yba.prog W 0 (fun _ => true) true Yba.f3.params.toList args.toList ds p := hA0
  rw [Yba.params3] at hA hval hsz
  obtain ⟨v0, vs0, d0, ds0, p0, q0, hargs, rfl, rfl, h0, r0⟩ := trodAll_cons hA
  obtain ⟨rfl, rfl, rfl⟩ := trodAll_nil r0
  obtain rfl : args = #[v0] := by cases args; simp_all
  obtain ⟨rfl, rfl⟩ := trodVars_none hV
  obtain ⟨a0, len0, cap0, rfl⟩ := okWide_slice Yba.underlying22 (hval 0 22 v0 rfl rfl)
  have k0 := h0
  have lt0 : ∀ x ∈ p0, x.block < W.heap.size := by obtain ⟨m, hm⟩ := k0; exact DataW.trod_lt m _ _ _ hm
  have hwt : ∀ n ∈ d0.weights Yba.prog 22, n ≤ reachBytes := fun n hn => by
    have := List.all_eq_true.1 hsz n (DataW.weights_mem_each (j := 0) (t := 22) rfl rfl n hn)
    simpa using this
  clear hA0 hval0
  refine (walk a0 len0 cap0 W (opened h0 hwt)).mono fun e W' ⟨he, bel⟩ => ?_
  subst he
  exact ⟨_, rfl, _, _, _, [], _, [], hW', trodAll_mk1 (shut_bool Yba.underlying4 _), (trodAll_cons_mk (Below.trod laidOut (by kernel_rfl) (of_decide_eq_true (by kernel_rfl)) k0 bel lt0) trodAll_mk0), rfl, bel.frame _, fun h => by cases h⟩

theorem over : Rows.lawS6801BWholeRow.holds Yba.pinned (OpenSpec.ofChange Rows.lawS6801BWholeSpec) :=
  OpenClaim.holds_of_wide 3 Yba.f3 rfl rfl rfl rfl rfl rfl rfl ⟨rfl, rfl, rfl, rfl, rfl⟩ rfl rfl rfl rfl rfl (by kernel_rfl) Yba.func3 (by kernel_rfl)
    (of_decide_eq_true (by kernel_rfl)) (by unfold Func.isWrapper; first | (rw [if_pos (by decide +kernel)]; kernel_rfl) | (rw [if_neg (by decide +kernel)]; exact ⟨rfl, rfl⟩))
    (fun os started H enc _ => lifted os started H enc)
end Go.Proofs.Ybulkejvc.lawS6801B

namespace Go.Proofs.Ybulkejvc
/-- THE STATEMENT -/
theorem lawS6801BWhole_holds : Rows.LawS6801BWholeSaid := lawS6801B.over
end Go.Proofs.Ybulkejvc
