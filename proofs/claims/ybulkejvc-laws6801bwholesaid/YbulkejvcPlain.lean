import Derived.WalkKit
import Derived.Maps.Own
import Derived.Maps.OwnOps
import Derived.Maps.OwnSet
import Derived.Maps.RangeWalk
import Derived.Maps.Ext
import Derived.StringKeys
namespace Go.Proofs.Ybulkejvc

/-! ### How often a type stands among the first k rules; how many types there are -/
def cnt (T : Nat → ByteArray) (x : ByteArray) : Nat → Nat
  | 0 => 0
  | k + 1 => if T k = x then cnt T x k + 1 else cnt T x k
def dn (T : Nat → ByteArray) : Nat → Nat
  | 0 => 0
  | k + 1 => if cnt T (T k) k = 0 then dn T k + 1 else dn T k
theorem cnt_yes {T : Nat → ByteArray} {x : ByteArray} {k : Nat} (h : T k = x) : cnt T x (k + 1) = cnt T x k + 1 := by rw [cnt, if_pos h]
theorem cnt_no {T : Nat → ByteArray} {x : ByteArray} {k : Nat} (h : ¬ T k = x) : cnt T x (k + 1) = cnt T x k := by rw [cnt, if_neg h]
theorem cnt_le (T : Nat → ByteArray) (x : ByteArray) : ∀ k, cnt T x k ≤ k
  | 0 => Nat.le_refl _
  | k + 1 => by
    have := cnt_le T x k
    unfold cnt
    split <;> omega
theorem dn_le (T : Nat → ByteArray) : ∀ k, dn T k ≤ k
  | 0 => Nat.le_refl _
  | k + 1 => by
    have := dn_le T k
    unfold dn
    split <;> omega
theorem cnt_mono (T : Nat → ByteArray) (x : ByteArray) {i : Nat} : ∀ {k : Nat}, i ≤ k → cnt T x i ≤ cnt T x k
  | 0, h => by rw [Nat.le_zero.1 h]; exact Nat.le_refl _
  | k + 1, h => by
    by_cases e : i = k + 1
    · rw [e]; exact Nat.le_refl _
    · have := cnt_mono T x (i := i) (k := k) (by omega)
      rw [cnt]
      split <;> omega
theorem cnt_lt {T : Nat → ByteArray} {x : ByteArray} {i n : Nat} (h : T i = x) (hi : i < n) : cnt T x i < cnt T x n := by
  have h1 := cnt_yes h
  have h2 := cnt_mono T x (show i + 1 ≤ n from hi)
  omega
theorem cnt_pos {T : Nat → ByteArray} {x : ByteArray} : ∀ {n : Nat}, 0 < cnt T x n → ∃ i, i < n ∧ T i = x
  | 0, h => absurd h (Nat.lt_irrefl 0)
  | n + 1, h => by
    by_cases e : T n = x
    · exact ⟨n, Nat.lt_succ_self n, e⟩
    · rw [cnt_no e] at h
      obtain ⟨i, hi, hx⟩ := cnt_pos h
      exact ⟨i, Nat.lt_succ_of_lt hi, hx⟩

/-! ### Keys -/
def kl (x : ByteArray) : Lit := .string x.data.toList
theorem kl_inj {x y : ByteArray} (h : kl x = kl y) : x = y := by
  simp only [kl, Lit.string.injEq] at h
  exact ByteArray.ext (Array.toList_inj.mp h)
theorem kl_ne {x y : ByteArray} (h : ¬ x = y) : kl x ≠ kl y := fun e => h (kl_inj e)
theorem kl_key (x : ByteArray) : WideAt.IsKeyLit (kl x) := trivial
theorem kl_same {x y : ByteArray} : (kl x).sameKey (kl y) = decide (x = y) := by
  by_cases e : x = y
  · subst e; simp [kl, Lit.sameKey]
  · have := Maps.sameKey_ne (kl_ne e)
    rw [this]; simp [e]
theorem kl_inv {P : Program} {k : TypeId} (hk : P.underlying k = some .string) {x : ByteArray} {l : Lit} (h : keyOf P k (.string x) = some l) : l = kl x ∧ x.size ≤ maxLen := by
  simp [keyOf, hk, mapKey] at h
  exact ⟨h.2.symm, h.1⟩

/-! ### Two maps with the same keys are of one size -/
theorem has_iff {H : Type} {es : List (Lit × DataW H)} {k : Lit} (hk : WideAt.IsKeyLit k) : Maps.has (.map es) k = true ↔ ∃ q ∈ es, q.1 = k := by
  rw [Maps.has_eq, List.any_eq_true]
  constructor
  · rintro ⟨q, hq, h⟩; exact ⟨q, hq, (WideAt.sameKey_iff hk).1 h⟩
  · rintro ⟨q, hq, h⟩; exact ⟨q, hq, (WideAt.sameKey_iff hk).2 h⟩
theorem same_size {H H' : Type} {D₁ : DataW H} {D₂ : DataW H'} (c₁ : Maps.Canon D₁) (c₂ : Maps.Canon D₂) (h : ∀ k, Maps.has D₁ k = Maps.has D₂ k) : Maps.size D₁ = Maps.size D₂ := by
  obtain ⟨e₁, rfl, s₁, k₁⟩ := c₁
  obtain ⟨e₂, rfl, s₂, k₂⟩ := c₂
  have key : (e₁.map fun p => (p.1, (DataW.nil : DataW Unit))) = (e₂.map fun p => (p.1, (DataW.nil : DataW Unit))) := by
    refine Maps.eq_of_mem_rising (List.pairwise_map.2 s₁) (List.pairwise_map.2 s₂) (fun p => ?_)
    simp only [List.mem_map]
    constructor
    · rintro ⟨q, hq, rfl⟩
      have := (has_iff (k₁ q hq)).2 ⟨q, hq, rfl⟩
      rw [h, has_iff (k₁ q hq)] at this
      obtain ⟨q', hq', e⟩ := this
      exact ⟨q', hq', by rw [e]⟩
    · rintro ⟨q, hq, rfl⟩
      have := (has_iff (k₂ q hq)).2 ⟨q, hq, rfl⟩
      rw [← h, has_iff (k₂ q hq)] at this
      obtain ⟨q', hq', e⟩ := this
      exact ⟨q', hq', by rw [e]⟩
  have := congrArg List.length key
  simpa [Maps.size] using this

/-! ### How a slice of the call's own reads as a datum: its block, its length, its capacity -/
def sl (g l c : Nat) : DataW Unit := .agg [.lit (.int .i64 (g : Int)), .lit (.int .i64 (l : Int)), .lit (.int .i64 (c : Int))]
def R3 : Value → Option (DataW Unit × List MemPlace)
  | .slice (some ⟨g, 0, none⟩) l c => some (sl g l c, [])
  | .slice none 0 0 => some (.nil, [])
  | _ => none
theorem sl_inj {g l c g' l' c' : Nat} (h : sl g l c = sl g' l' c') : g = g' ∧ l = l' ∧ c = c' := by
  simp [sl] at h
  omega
theorem R3_mk (g l c : Nat) : R3 (.slice (some ⟨g, 0, none⟩) l c) = some (sl g l c, []) := rfl
theorem R3_inv {v : Value} {g l c : Nat} {ps : List MemPlace} (h : R3 v = some (sl g l c, ps)) : v = .slice (some ⟨g, 0, none⟩) l c := by
  unfold R3 at h
  split at h
  · simp only [Option.some.injEq, Prod.mk.injEq] at h
    obtain ⟨rfl, rfl, rfl⟩ := sl_inj h.1
    rfl
  · simp [sl] at h
  · cases h

end Go.Proofs.Ybulkejvc
