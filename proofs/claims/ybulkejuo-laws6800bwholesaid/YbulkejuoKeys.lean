import Derived.Test.YbulkejuoSlot
import Derived.Test.YbulkejuoPlain
import Derived.Deep.OwnRows
namespace Go.Proofs.Ybulkejuo
open Go.RowKit

/-! ### The keys' row: S keys of 40 cells -/
def kcell (k : Nat → Int × Int) (i : Nat) : Value := (kcs (k (i / 40))).getD (i % 40) undef
def zkeys (S : Nat) : Array Value := madeCells (kcs (0, 0)).toArray (S * 40)
def ztags (S : Nat) : Array Value := madeCells #[.int .u8 0] S
def zanch (S : Nat) : Array Value := madeCells #[.int .i64 0] S

theorem range_of_row {w : World} {b S : Nat} {k : Nat → Int × Int} (h : w.rowIs b 29 (S * 40) (kcell k)) (j : Nat) (hj : j < S) : w.rangeAt b (j * 40) (kcs (k j)) := by
  intro i v hv
  have hi : i < 40 := by
    have := (List.getElem?_eq_some_iff.1 hv).1
    rwa [kcs_length] at this
  rw [h.cell (show j * 40 + i < S * 40 by omega)]
  unfold kcell
  rw [show (j * 40 + i) / 40 = j by omega, show (j * 40 + i) % 40 = i by omega, List.getD_eq_getElem?_getD, hv]
  rfl
theorem row_zkeys (w : World) (S : Nat) : (w.alloc (.cells (zkeys S) 29)).rowIs w.heap.size 29 (S * 40) (kcell fun _ => (0, 0)) := by
  have h := World.rowIs_alloc w (zkeys S) 29 (kcell fun _ => (0, 0)) (fun i hi => by
    simp only [zkeys, size_madeCells] at hi
    simp only [zkeys, madeCells, Array.getElem?_map, List.size_toArray, kcs_length]
    rw [Array.getElem?_range, if_pos hi]
    have hm : i % 40 < 40 := Nat.mod_lt _ (by decide)
    simp only [Option.map_some, kcell]
    congr 1
    rw [List.getD_eq_getElem?_getD, List.getElem?_eq_getElem (by rw [kcs_length]; exact hm)]
    simp [kcs_length, hm])
  simpa only [zkeys, size_madeCells] using h
theorem row_ztags (w : World) (S : Nat) : (w.alloc (.cells (ztags S) 5)).rowIs w.heap.size 5 S (fun _ => .int .u8 0) := World.rowIs_made w _ S 5

/-- Two stores into key j: its two bytes. -/
theorem row_key_set {w : World} {b S : Nat} {k : Nat → Int × Int} (h : w.rowIs b 29 (S * 40) (kcell k)) (j : Nat) (x y : Int) :
    ((w.setCell ⟨b, j * 40, none⟩ (.int .u8 x)).setCell ⟨b, j * 40 + 1, none⟩ (.int .u8 y)).rowIs b 29 (S * 40) (kcell fun i => if i = j then (x, y) else k i) := by
  refine ((h.set (j * 40) _).set (j * 40 + 1) _).congr (fun i _ => ?_)
  show (if i = j * 40 + 1 then Value.int .u8 y else if i = j * 40 then Value.int .u8 x else kcell k i) = _
  unfold kcell
  dsimp only
  by_cases h1 : i = j * 40 + 1
  · rw [if_pos h1, if_pos (show i / 40 = j by omega), show i % 40 = 1 by omega]; rfl
  · rw [if_neg h1]
    by_cases h0 : i = j * 40
    · rw [if_pos h0, if_pos (show i / 40 = j by omega), show i % 40 = 0 by omega]; rfl
    · rw [if_neg h0]
      by_cases e : i / 40 = j
      · rw [if_pos e]
        obtain ⟨m, hm⟩ : ∃ m, i % 40 = m + 2 := ⟨i % 40 - 2, by omega⟩
        rw [hm]
        rfl
      · rw [if_neg e]

/-! ### make -/
theorem info2 : (Yba.prog.info? 2).map (fun i => (i.zero, i.size, i.bytes)) = some (some (.int .i64 0), 1, 8) := by kernel_rfl
theorem make24 (S : Nat) (hS : S ≤ 1024) (w : World) : (Instr.makeSlice 24 (.int .i64 (S : Int)) (.int .i64 (S : Int))).run Yba.prog w = .ok (.slice (some ⟨w.heap.size, 0, none⟩) S S) (w.alloc (.cells (ztags S) 5)) :=
  run_make_row' 24 5 (.int .u8 0) 1 Yba.underlying24 info5 rfl .i64 .i64 S (by omega) (by omega) w
theorem make34 (S : Nat) (hS : S ≤ 1024) (w : World) : (Instr.makeSlice 34 (.int .i64 (S : Int)) (.int .i64 (S : Int))).run Yba.prog w = .ok (.slice (some ⟨w.heap.size, 0, none⟩) S S) (w.alloc (.cells (zanch S) 2)) :=
  run_make_row' 34 2 (.int .i64 0) 8 Yba.underlying34 info2 rfl .i64 .i64 S (by omega) (by omega) w
theorem make25 (S : Nat) (hS : S ≤ 1024) (w : World) : (Instr.makeSlice 25 (.int .i64 (S : Int)) (.int .i64 (S : Int))).run Yba.prog w = .ok (.slice (some ⟨w.heap.size, 0, none⟩) S S) (w.alloc (.cells (zkeys S) 29)) := by
  obtain ⟨i, hi, hz, hs, hb⟩ := info_parts info29
  have hr := run_make (P := Yba.prog) w 25 29 i _ Yba.underlying25 hi hz .i64 .i64 (S : Int) (S : Int) (by omega) (Int.le_refl _) (by rw [hb]; omega) (by omega)
  rw [hs] at hr
  exact hr

/-! ### slices.Clone, its outcome by the index -/
theorem clone_tags (b n : Nat) (t : Nat → Int) (w : World) (hn : n ≤ 1024) (h : w.rowIs b 5 n (fun j => .int .u8 (t j))) :
    Calls Yba.prog 4 #[.slice (some ⟨b, 0, none⟩) n n] w fun e w' => ∃ g c, e = .returned (.slice (some ⟨g, 0, none⟩) n c) ∧ w.heap.size ≤ g ∧ g < w'.heap.size ∧ (∀ j, j < n → w'.cell? ⟨g, j, none⟩ = some (.int .u8 (t j))) ∧ Below w.heap.size w w' := by
  refine (cloneB_any b 0 n n ((List.range n).map fun j => .int .u8 (t j)) w (by simp) hn ?_ ?_).mono ?_
  · intro j u hj
    obtain ⟨hlt, hu⟩ := List.getElem?_eq_some_iff.1 hj
    simp at hlt hu
    rw [Nat.zero_add, h.cell hlt, hu]
  · intro u hu
    simp only [List.mem_map] at hu
    obtain ⟨_, _, rfl⟩ := hu
    rfl
  · rintro e w' ⟨v, rfl, hown, hne, hb⟩
    have ho := hown
    obtain ⟨_, ⟨h1, _⟩ | ⟨g, cap, cur, rfl, hg, hblk, _, _, _, _⟩⟩ := hown
    · exact absurd h1 hne
    · refine ⟨g, cap, rfl, hg, (Array.getElem?_eq_some_iff.1 hblk).1, fun j hj => ?_, hb⟩
      rw [ho.cellAt j (by omega)]
      simp [hj]

theorem keys_get (k : Nat → Int × Int) (n i : Nat) (hi : i < n * 40) : ((List.range (n * 40)).map (kcell k))[i]? = some (kcell k i) := by
  simp [hi]
theorem clone_keys (b n : Nat) (k : Nat → Int × Int) (w : World) (hn : n ≤ 1024) (h : w.rowIs b 29 (n * 40) (kcell k)) :
    Calls Yba.prog 5 #[.slice (some ⟨b, 0, none⟩) n n] w fun e w' => ∃ g c, e = .returned (.slice (some ⟨g, 0, none⟩) n c) ∧ w.heap.size ≤ g ∧ g < w'.heap.size ∧ (∀ j, j < n → w'.rangeAt g (j * 40) (kcs (k j))) ∧ Below w.heap.size w w' := by
  refine (cloneK_any b 0 n n ((List.range (n * 40)).map (kcell k)) w (by simp) hn ?_ ?_).mono ?_
  · intro j u hj
    obtain ⟨hlt, hu⟩ := List.getElem?_eq_some_iff.1 hj
    simp at hlt hu
    rw [Nat.zero_add, h.cell hlt, hu]
  · intro u hu
    simp only [List.mem_map] at hu
    obtain ⟨i, _, rfl⟩ := hu
    have hm : i % 40 < 40 := Nat.mod_lt _ (by decide)
    refine kcs_one (k (i / 40)) _ ?_
    unfold kcell
    rw [List.getD_eq_getElem?_getD, List.getElem?_eq_getElem (by rw [kcs_length]; exact hm)]
    exact List.getElem_mem _
  · rintro e w' ⟨v, rfl, hown, hne, hb⟩
    have ho := hown
    obtain ⟨_, ⟨h1, _⟩ | ⟨g, cap, cur, rfl, hg, hblk, _, _, _, _⟩⟩ := hown
    · exact absurd h1 hne
    · refine ⟨g, cap, rfl, hg, (Array.getElem?_eq_some_iff.1 hblk).1, fun j hj => ?_, hb⟩
      intro i v hv
      have hi : i < 40 := by
        have := (List.getElem?_eq_some_iff.1 hv).1
        rwa [kcs_length] at this
      rw [ho.cellAt _ (show j * 40 + i < n * 40 by omega), keys_get k n _ (show j * 40 + i < n * 40 by omega)]
      unfold kcell
      rw [show (j * 40 + i) / 40 = j by omega, show (j * 40 + i) % 40 = i by omega, List.getD_eq_getElem?_getD, hv]
      rfl

end Go.Proofs.Ybulkejuo
