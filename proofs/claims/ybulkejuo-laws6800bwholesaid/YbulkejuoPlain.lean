import Derived.WalkKit
import Derived.WalkSpells
import Derived.WalkLawsBesides
namespace Go.Proofs.Ybulkejuo
open Go.RowKit

/-! ### Masks -/
theorem and_mask (e : Nat) (he : e ≤ 10) (x : Int) : (((BitVec.ofInt 64 x &&& BitVec.ofInt 64 ((2 ^ e - 1 : Nat) : Int)).toNat : Nat) : Int) = x % ((2 ^ e : Nat) : Int) := by
  have hle : 2 ^ e ≤ 2 ^ 10 := Nat.pow_le_pow_right (by decide) he
  have hd : ((2 ^ e : Nat) : Int) ∣ ((2 ^ 64 : Nat) : Int) := by
    exact_mod_cast Nat.pow_dvd_pow 2 (show e ≤ 64 by omega)
  have hb : (2 ^ e - 1) % 2 ^ 64 = 2 ^ e - 1 := Nat.mod_eq_of_lt (by omega)
  rw [BitVec.toNat_and, BitVec.ofInt_natCast, BitVec.toNat_ofNat, hb, BitVec.toNat_ofInt, Nat.and_two_pow_sub_one_eq_mod]
  rw [Int.natCast_emod, Int.toNat_of_nonneg (Int.emod_nonneg _ (by decide)), Int.emod_emod_of_dvd _ hd]
theorem mod_bd (e : Nat) (he : e ≤ 10) (x : Int) : 0 ≤ x % ((2 ^ e : Nat) : Int) ∧ x % ((2 ^ e : Nat) : Int) < 1024 := by
  have hpos : 0 < 2 ^ e := Nat.two_pow_pos e
  have hle : 2 ^ e ≤ 2 ^ 10 := Nat.pow_le_pow_right (by decide) he
  have h1 := Int.emod_nonneg x (show ((2 ^ e : Nat) : Int) ≠ 0 by omega)
  have h2 := Int.emod_lt_of_pos x (show (0 : Int) < ((2 ^ e : Nat) : Int) by omega)
  omega
theorem sub_one (e : Nat) : (((2 ^ e : Nat) : Int) - 1) = ((2 ^ e - 1 : Nat) : Int) := by
  have hpos : 0 < 2 ^ e := Nat.two_pow_pos e
  omega
theorem mask_i64 (e : Nat) (he : e ≤ 10) (x : Int) : bits .and .i64 x (((2 ^ e : Nat) : Int) - 1) = x % ((2 ^ e : Nat) : Int) := by
  rw [sub_one]
  show IntKind.i64.wrap (((BitVec.ofInt 64 x &&& BitVec.ofInt 64 ((2 ^ e - 1 : Nat) : Int)).toNat : Nat) : Int) = _
  rw [and_mask e he, IntKind.wrap_i64]
  have := mod_bd e he x
  omega
theorem mask_u64 (e : Nat) (he : e ≤ 10) (x : Int) : bits .and .u64 x (((2 ^ e : Nat) : Int) - 1) = x % ((2 ^ e : Nat) : Int) := by
  rw [sub_one]
  show IntKind.u64.wrap (((BitVec.ofInt 64 x &&& BitVec.ofInt 64 ((2 ^ e - 1 : Nat) : Int)).toNat : Nat) : Int) = _
  rw [and_mask e he, IntKind.wrap_u64]
  have := mod_bd e he x
  omega
theorem wrap64_mod (e : Nat) (he : e ≤ 10) (x : Int) : wrap64 x % ((2 ^ e : Nat) : Int) = x % ((2 ^ e : Nat) : Int) := by
  have hd : ((2 ^ e : Nat) : Int) ∣ 18446744073709551616 := by
    have : ((2 ^ e : Nat) : Int) ∣ ((2 ^ 64 : Nat) : Int) := by exact_mod_cast Nat.pow_dvd_pow 2 (show e ≤ 64 by omega)
    simpa using this
  unfold wrap64
  rw [← Int.emod_sub_emod, Int.emod_emod_of_dvd _ hd, Int.emod_sub_emod]
  congr 1
  omega

/-- What of the size the walk wants. -/
structure Size (S : Nat) : Prop where
  one : 1 ≤ S
  le : S ≤ 1024
  andI : ∀ x : Int, bits .and .i64 x ((S : Int) - 1) = x % (S : Int)
  andU : ∀ x : Int, bits .and .u64 x ((S : Int) - 1) = x % (S : Int)
  wrap : ∀ x : Int, wrap64 x % (S : Int) = x % (S : Int)
theorem size_pow (e : Nat) (he : e ≤ 10) : Size (2 ^ e) :=
  ⟨Nat.two_pow_pos e, Nat.le_trans (Nat.pow_le_pow_right (by decide) he) (by decide), mask_i64 e he, mask_u64 e he, wrap64_mod e he⟩

/-! ### The law, plain: the nearest empty slot, the nearest match -/
/-- The least of dist(j) over j < k with p j; 'S' where there is none. -/
def best (S : Nat) (dist : Nat → Nat) (p : Nat → Bool) : Nat → Nat
  | 0 => S
  | k + 1 => if p k = true ∧ dist k < best S dist p k then dist k else best S dist p k
theorem best_le (S : Nat) (dist : Nat → Nat) (p : Nat → Bool) : ∀ k, best S dist p k ≤ S
  | 0 => Nat.le_refl _
  | k + 1 => by
    have := best_le S dist p k
    unfold best
    split <;> omega
theorem best_at (S : Nat) (dist : Nat → Nat) (p : Nat → Bool) : ∀ k, ∀ j, j < k → p j = true → best S dist p k ≤ dist j
  | 0, j, h, _ => absurd h (Nat.not_lt_zero _)
  | k + 1, j, h, hp => by
    unfold best
    by_cases e : j = k
    · subst e
      split
      · omega
      · rename_i hn; simp [hp] at hn; omega
    · have := best_at S dist p k j (by omega) hp
      split <;> omega
theorem best_ge (S : Nat) (dist : Nat → Nat) (p : Nat → Bool) (m : Nat) (hm : m ≤ S) : ∀ k, (∀ j, j < k → p j = true → m ≤ dist j) → m ≤ best S dist p k
  | 0, _ => hm
  | k + 1, h => by
    have := best_ge S dist p m hm k (fun j hj => h j (by omega))
    unfold best
    split
    · rename_i hc; exact h k (by omega) hc.1
    · exact this

/-- dist(j) from start st, forward. -/
def dst (S st j : Nat) : Nat := (j + S - st) % S
theorem dst_lt (S st j : Nat) (h : 1 ≤ S) : dst S st j < S := Nat.mod_lt _ (by omega)
theorem dst_at (S st d : Nat) (hst : st < S) (hd : d < S) : dst S st ((st + d) % S) = d := by
  unfold dst
  by_cases h : st + d < S
  · rw [Nat.mod_eq_of_lt h, show st + d + S - st = d + S by omega, Nat.add_mod_right, Nat.mod_eq_of_lt hd]
  · rw [show (st + d) % S = st + d - S by rw [Nat.mod_eq_sub_mod (by omega), Nat.mod_eq_of_lt (by omega)], show st + d - S + S - st = d by omega, Nat.mod_eq_of_lt hd]
theorem at_dst (S st j : Nat) (hst : st < S) (hj : j < S) : (st + dst S st j) % S = j := by
  unfold dst
  by_cases h : st ≤ j
  · rw [show j + S - st = (j - st) + S by omega, Nat.add_mod_right, Nat.mod_eq_of_lt (show j - st < S by omega), show st + (j - st) = j by omega, Nat.mod_eq_of_lt hj]
  · rw [Nat.mod_eq_of_lt (show j + S - st < S by omega), show st + (j + S - st) = j + S by omega, Nat.add_mod_right, Nat.mod_eq_of_lt hj]
theorem dst_int (S st j : Nat) (hst : st < S) : ((j : Int) - (st : Int)) % (S : Int) = (dst S st j : Int) := by
  unfold dst
  rw [Int.natCast_emod, show ((j + S - st : Nat) : Int) = ((j : Int) - (st : Int)) + (S : Int) by omega, Int.add_emod_right]

/-- The first stop d: if it is an empty slot (not m), the nearest empty slot is there and no match is nearer; if it is a match, it is the nearest, and nearer than every empty slot. -/
theorem first_stop (S st d : Nat) (z m : Nat → Bool) (hst : st < S) (hd : d < S)
    (hno : ∀ d', d' < d → z ((st + d') % S) = false ∧ m ((st + d') % S) = false) (hstop : z ((st + d) % S) = true ∨ m ((st + d) % S) = true) :
    (z ((st + d) % S) = true → best S (dst S st) z S = d ∧ ¬ best S (dst S st) m S < d) ∧
    (z ((st + d) % S) = false → best S (dst S st) m S = d ∧ d < best S (dst S st) z S) := by
  have far : ∀ p : Nat → Bool, (∀ d', d' < d → p ((st + d') % S) = false) → ∀ j, j < S → p j = true → d ≤ dst S st j := by
    intro p hp j hj hpj
    rcases Nat.lt_or_ge (dst S st j) d with h | h
    · have := hp _ h
      rw [at_dst S st j hst hj, hpj] at this
      cases this
    · exact h
  have hjS : (st + d) % S < S := Nat.mod_lt _ (by omega)
  have hat := dst_at S st d hst hd
  have hz := best_ge S (dst S st) z d (by omega) S (far z (fun d' h => (hno d' h).1))
  have hm := best_ge S (dst S st) m d (by omega) S (far m (fun d' h => (hno d' h).2))
  constructor
  · intro h
    have := best_at S (dst S st) z S _ hjS h
    omega
  · intro h
    have hm1 : m ((st + d) % S) = true := by
      rcases hstop with h' | h'
      · rw [h] at h'; cases h'
      · exact h'
    have := best_at S (dst S st) m S _ hjS hm1
    refine ⟨by omega, ?_⟩
    have := best_ge S (dst S st) z (d + 1) (by omega) S (fun j hj hzj => by
      have h1 := far z (fun d' h => (hno d' h).1) j hj hzj
      rcases Nat.lt_or_ge d (dst S st j) with h2 | h2
      · exact h2
      · have he : dst S st j = d := by omega
        have := at_dst S st j hst hj
        rw [he] at this
        rw [this] at h
        rw [h] at hzj; cases hzj)
    omega

end Go.Proofs.Ybulkejuo
