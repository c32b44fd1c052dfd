import Derived.Test.YbulkejvcRank
namespace Go.Proofs.Ybulkejvc
open Go.RowKit

/-! ### The types met among the first k rules, in their order -/
def tys (T : Nat → ByteArray) : Nat → List ByteArray
  | 0 => []
  | k + 1 => if cnt T (T k) k = 0 then tys T k ++ [T k] else tys T k
theorem tys_new {T : Nat → ByteArray} {k : Nat} (h : cnt T (T k) k = 0) : tys T (k + 1) = tys T k ++ [T k] := by rw [tys, if_pos h]
theorem tys_old {T : Nat → ByteArray} {k : Nat} (h : ¬ cnt T (T k) k = 0) : tys T (k + 1) = tys T k := by rw [tys, if_neg h]
theorem tys_length (T : Nat → ByteArray) : ∀ k, (tys T k).length = dn T k
  | 0 => rfl
  | k + 1 => by
    have := tys_length T k
    unfold tys dn
    split <;> simp [this]
theorem mem_tys (T : Nat → ByteArray) (x : ByteArray) : ∀ k, x ∈ tys T k ↔ 0 < cnt T x k
  | 0 => by simp [tys, cnt]
  | k + 1 => by
    have ih := mem_tys T x k
    by_cases e : T k = x
    · subst e
      rw [cnt_yes rfl]
      by_cases h0 : cnt T (T k) k = 0
      · rw [tys_new h0]; simp
      · rw [tys_old h0, ih]; omega
    · rw [cnt_no e]
      by_cases h0 : cnt T (T k) k = 0
      · rw [tys_new h0, List.mem_append, ih]
        simp only [List.mem_singleton]
        exact ⟨fun h => h.elim id (fun h => absurd h.symm e), .inl⟩
      · rw [tys_old h0, ih]
theorem getD_mem {l : List ByteArray} {j : Nat} (h : j < l.length) : l.getD j ByteArray.empty ∈ l := by
  rw [List.getD_eq_getElem?_getD, List.getElem?_eq_getElem h]
  exact List.getElem_mem _
theorem mem_getD {l : List ByteArray} {x : ByteArray} (h : x ∈ l) : ∃ j, j < l.length ∧ l.getD j ByteArray.empty = x := by
  obtain ⟨j, hj, e⟩ := List.mem_iff_getElem.1 h
  exact ⟨j, hj, by rw [List.getD_eq_getElem?_getD, List.getElem?_eq_getElem hj]; exact e⟩

/-! ### The sum of the lengths -/
def tot (L : Nat → Nat) : Nat → Nat
  | 0 => 0
  | k + 1 => tot L k + L k
theorem tot_le {L : Nat → Nat} {n : Nat} (h : ∀ i, i < n → L i ≤ 8796093022208) : ∀ k, k ≤ n → tot L k ≤ k * 8796093022208
  | 0, _ => by simp [tot]
  | k + 1, hk => by
    have h1 := tot_le h k (by omega)
    have h2 := h k (by omega)
    unfold tot
    omega
theorem le_tot {L : Nat → Nat} : ∀ {n i : Nat}, i < n → L i ≤ tot L n
  | 0, i, h => absurd h (Nat.not_lt_zero _)
  | n + 1, i, h => by
    unfold tot
    by_cases e : i = n
    · subst e; omega
    · have := le_tot (L := L) (show i < n by omega)
      omega

/-! ### What an owned row of strings is good for -/
theorem vals_of_own {w : World} {B : Nat} {v : Value} {l : List ByteArray} (h : w.ownsRow B 9 1 v l.length (l.map Value.string)) : ∃ a c, v = .slice a l.length c ∧ Vals w a l.length (fun j => l.getD j ByteArray.empty) := by
  have ho := h
  obtain ⟨_, ⟨rfl, h0⟩ | ⟨g, cap, cur, rfl, hg, hblk, _, _, _, _⟩⟩ := h
  · exact ⟨none, 0, by rw [h0], fun _ => h0, fun hl => by omega⟩
  · refine ⟨_, cap, rfl, fun e => by (cases e), fun hl => ⟨g, 0, rfl, fun j hj => ?_⟩⟩
    rw [Nat.zero_add, ho.cellAt j (by omega)]
    simp [hj]

/-! ### The clone, in one word -/
theorem clone_any (ao : Option Addr) (n c : Nat) (T : Nat → ByteArray) (A : Nat → Option Addr) (L C : Nat → Nat) (s : Nat → Nat → ByteArray) (w : World) (hn : n ≤ 4096) (hL : ∀ i, i < n → L i ≤ 1048576)
    (hnil : ao = none → n = 0) (hx : 0 < n → ∃ rb ro, ao = some ⟨rb, ro, none⟩ ∧ Rules w rb ro n T A L C s) :
    Calls Yba.prog 4 #[.slice ao n c] w fun e w' => ∃ bo A', e = .returned (.slice bo n n) ∧ bo.isNone = ao.isNone ∧ (0 < n → ∃ g, bo = some ⟨g, 0, none⟩ ∧ Rules w' g 0 n T A' L L s) ∧ (∀ i, i < n → (A' i).isNone = (A i).isNone) ∧ Below w.heap.size w w' := by
  cases ao with
  | none =>
    have h0 := hnil rfl
    subst h0
    refine (clone_nil 0 c w).mono ?_
    rintro e w' ⟨rfl, rfl⟩
    exact ⟨none, A, rfl, rfl, fun h => absurd h (Nat.lt_irrefl 0), fun i hi => rfl, Below.refl _ _⟩
  | some x =>
    refine (clone_some x n c T A L C s w hn hL (fun h => ?_)).mono ?_
    · obtain ⟨rb, ro, e, hR⟩ := hx h
      exact ⟨rb, ro, by simpa using e, hR⟩
    · rintro e w' ⟨rfl, f, A', hrow, hk, hb⟩
      refine ⟨_, A', rfl, rfl, fun _ => ⟨_, rfl, fun i hi => ?_⟩, fun i hi => (hk i hi).2.2.1, hb⟩
      obtain ⟨h1, h2, h3, h4, h5⟩ := hk i hi
      refine ⟨?_, ?_, h4, fun hl => ?_⟩
      · rw [Nat.zero_add, hrow.cell (by omega), h1]
      · rw [Nat.zero_add, hrow.cell (by omega), h2]
      · cases hA : A' i with
        | none => have := h4 hA; omega
        | some y =>
          obtain ⟨b, rfl, _, _, hc⟩ := h5 y hA
          exact ⟨b, 0, rfl, fun j hj => by rw [Nat.zero_add]; exact hc j hj⟩

end Go.Proofs.Ybulkejvc
