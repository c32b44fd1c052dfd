import Derived.Test.YbulkejvcMem
import Derived.Deep.OwnRows
import Derived.Laws.CopyOwn
namespace Go.Proofs.Ybulkejvc
open Go.RowKit

/-! ### The rules that came in -/
/-- n rules from offset ro of block rb on: the type's string, the values' slice, what the values hold. -/
def Rules (w : World) (rb ro n : Nat) (T : Nat → ByteArray) (A : Nat → Option Addr) (L C : Nat → Nat) (s : Nat → Nat → ByteArray) : Prop :=
  ∀ i, i < n → w.cell? ⟨rb, ro + i * 2, none⟩ = some (.string (T i)) ∧ w.cell? ⟨rb, ro + i * 2 + 1, none⟩ = some (.slice (A i) (L i) (C i)) ∧ Vals w (A i) (L i) (s i)
theorem Rules.below {w w' : World} {rb ro n : Nat} {T : Nat → ByteArray} {A : Nat → Option Addr} {L C : Nat → Nat} {s : Nat → Nat → ByteArray} (h : Rules w rb ro n T A L C s) (hb : Below w.heap.size w w') : Rules w' rb ro n T A L C s :=
  fun i hi => ⟨cell_later hb (h i hi).1, cell_later hb (h i hi).2.1, (h i hi).2.2.below hb⟩
theorem Rules.lt {w : World} {rb ro n : Nat} {T : Nat → ByteArray} {A : Nat → Option Addr} {L C : Nat → Nat} {s : Nat → Nat → ByteArray} (h : Rules w rb ro n T A L C s) (hn : 0 < n) : rb < w.heap.size :=
  World.block_lt_of_cell? w _ (h 0 hn).1

/-! ### make -/
def zrules (n : Nat) : Array Value := madeCells #[.string ByteArray.empty, .slice none 0 0] (n * 2)
def zstrs (n : Nat) : Array Value := madeCells #[.string ByteArray.empty] n
theorem info25 : (Yba.prog.info? 25).map (fun i => (i.zero, i.size, i.bytes)) = some (some (.agg #[.string ByteArray.empty, .slice none 0 0]), 2, 40) := by kernel_rfl
theorem info9 : (Yba.prog.info? 9).map (fun i => (i.zero, i.size, i.bytes)) = some (some (.string ByteArray.empty), 1, 16) := by kernel_rfl
theorem make22 (n : Nat) (hn : n ≤ 4096) (w : World) : (Instr.makeSlice 22 (.int .i64 (n : Int)) (.int .i64 (n : Int))).run Yba.prog w = .ok (.slice (some ⟨w.heap.size, 0, none⟩) n n) (w.alloc (.cells (zrules n) 25)) := by
  obtain ⟨i, hi, hz, hs, hb⟩ := info_parts info25
  have hr := run_make (P := Yba.prog) w 22 25 i _ Yba.underlying22 hi hz .i64 .i64 (n : Int) (n : Int) (by omega) (Int.le_refl _) (by rw [hb]; omega) (by omega)
  rw [hs] at hr
  exact hr
theorem make23 (n : Nat) (hn : n ≤ 1048576) (w : World) : (Instr.makeSlice 23 (.int .i64 (n : Int)) (.int .i64 (n : Int))).run Yba.prog w = .ok (.slice (some ⟨w.heap.size, 0, none⟩) n n) (w.alloc (.cells (zstrs n) 9)) :=
  run_make_row' 23 9 (.string ByteArray.empty) 16 Yba.underlying23 info9 rfl .i64 .i64 n (by omega) (by omega) w
theorem size9 : (Yba.prog.info? 9).map (·.size) = some 1 := by kernel_rfl

/-- A clone's values: nil just where the values are; else a block of its own, behind g, that holds the same strings. -/
def Own (wr : World) (g : Nat) (a a' : Option Addr) (l : Nat) (s : Nat → ByteArray) : Prop :=
  a'.isNone = a.isNone ∧ (a' = none → l = 0) ∧ ∀ x, a' = some x → ∃ b, x = ⟨b, 0, none⟩ ∧ g < b ∧ b < wr.heap.size ∧ ∀ j, j < l → wr.cell? ⟨b, j, none⟩ = some (.string (s j))
theorem Own.keep {wr w2 : World} {g : Nat} {a a' : Option Addr} {l : Nat} {s : Nat → ByteArray} (h : Own wr g a a' l s) (hz : wr.heap.size ≤ w2.heap.size) (hc : ∀ b, g < b → b < wr.heap.size → w2.heap[b]? = wr.heap[b]?) : Own w2 g a a' l s :=
  ⟨h.1, h.2.1, fun x hx => by
    obtain ⟨b, rfl, h1, h2, h3⟩ := h.2.2 x hx
    exact ⟨b, rfl, h1, by omega, fun j hj => by rw [World.cell?_of_block (w := wr) (hc b h1 h2)]; exact h3 j hj⟩⟩

/-- What the world holds behind k rounds. -/
def Cloned (w : World) (n k : Nat) (T : Nat → ByteArray) (A : Nat → Option Addr) (L : Nat → Nat) (s : Nat → Nat → ByteArray) (wr : World) : Prop :=
  ∃ (f : Nat → Value) (A' : Nat → Option Addr), wr.rowIs w.heap.size 25 (n * 2) f ∧ (∀ i, i < k → f (i * 2) = .string (T i) ∧ f (i * 2 + 1) = .slice (A' i) (L i) (L i) ∧ Own wr w.heap.size (A i) (A' i) (L i) (s i)) ∧ Below w.heap.size w wr

/-- One round more: the two cells of rule k are laid in the row; the blocks behind it are as they were; rule k's values are cloned. -/
theorem cloned_step {w wr w2 : World} {n k : Nat} {T : Nat → ByteArray} {A : Nat → Option Addr} {L : Nat → Nat} {s : Nat → Nat → ByteArray} {f : Nat → Value} {A' : Nat → Option Addr}
    (h : wr.rowIs w.heap.size 25 (n * 2) f ∧ (∀ i, i < k → f (i * 2) = .string (T i) ∧ f (i * 2 + 1) = .slice (A' i) (L i) (L i) ∧ Own wr w.heap.size (A i) (A' i) (L i) (s i)) ∧ Below w.heap.size w wr)
    (a' : Option Addr) (hrow : w2.rowIs w.heap.size 25 (n * 2) (fun j => if j = k * 2 + 1 then .slice a' (L k) (L k) else if j = k * 2 then .string (T k) else f j))
    (hz : wr.heap.size ≤ w2.heap.size) (hc : ∀ b, w.heap.size < b → b < wr.heap.size → w2.heap[b]? = wr.heap[b]?) (hb : Below w.heap.size w w2) (ho : Own w2 w.heap.size (A k) a' (L k) (s k)) :
    Cloned w n (k + 1) T A L s w2 := by
  obtain ⟨_, hold, _⟩ := h
  refine ⟨_, fun i => if i = k then a' else A' i, hrow, fun i hi => ?_, hb⟩
  by_cases e : i = k
  · subst e
    refine ⟨?_, ?_, ?_⟩
    · show (if i * 2 = i * 2 + 1 then _ else if i * 2 = i * 2 then _ else _) = _
      rw [if_neg (by omega), if_pos rfl]
    · show (if i * 2 + 1 = i * 2 + 1 then _ else _) = _
      rw [if_pos rfl]
      simp
    · simpa using ho
  · obtain ⟨h1, h2, h3⟩ := hold i (by omega)
    refine ⟨?_, ?_, ?_⟩
    · show (if i * 2 = k * 2 + 1 then _ else if i * 2 = k * 2 then _ else _) = _
      rw [if_neg (by omega), if_neg (by omega), h1]
    · show (if i * 2 + 1 = k * 2 + 1 then _ else if i * 2 + 1 = k * 2 then _ else _) = _
      rw [if_neg (by omega), if_neg (by omega), h2]
      simp [e]
    · simp only [if_neg e]
      exact h3.keep hz hc
theorem heap_set_other (w : World) (a : Addr) (v : Value) (b : Nat) (h : b ≠ a.block) : (w.setCell a v).heap[b]? = w.heap[b]? := Below.heap_setCell w a v b h

set_option maxHeartbeats 400000 in
theorem clone_nil (n c : Nat) (w : World) :
    Calls Yba.prog 4 #[.slice none n c] w fun e w' => e = .returned (.slice none 0 0) ∧ w' = w := by
  have q22 : ∀ (w : World) (a : Option Addr) (n c n' c' : Nat), (binOp .eql 22 (.slice a n c) (.slice none n' c')).run Yba.prog w = .ok (.bool a.isNone) w := fun w a n c n' c' => Lib.run_eql_slice_nil w _ _ a n c n' c' Yba.underlying22
  go_enter Yba.func4, Yba.ntmps4
  go_wp2
  go_ret
  exact ⟨rfl, rfl⟩

set_option maxHeartbeats 400000 in
set_option maxRecDepth 100000 in
theorem clone_some (x : Addr) (n c : Nat) (T : Nat → ByteArray) (A : Nat → Option Addr) (L C : Nat → Nat) (s : Nat → Nat → ByteArray) (w : World) (hn : n ≤ 4096) (hL : ∀ i, i < n → L i ≤ 1048576)
    (hx : 0 < n → ∃ rb ro, x = ⟨rb, ro, none⟩ ∧ Rules w rb ro n T A L C s) :
    Calls Yba.prog 4 #[.slice (some x) n c] w fun e w' => e = .returned (.slice (some ⟨w.heap.size, 0, none⟩) n n) ∧ Cloned w n n T A L s w' := by
  have q22 : ∀ (w : World) (a : Option Addr) (n c n' c' : Nat), (binOp .eql 22 (.slice a n c) (.slice none n' c')).run Yba.prog w = .ok (.bool a.isNone) w := fun w a n c n' c' => Lib.run_eql_slice_nil w _ _ a n c n' c' Yba.underlying22
  have n23 : ∀ (w : World) (a : Option Addr) (n c n' c' : Nat), (binOp .neq 23 (.slice a n c) (.slice none n' c')).run Yba.prog w = .ok (.bool (!a.isNone)) w := fun w a n c n' c' => run_neq_slice_nil_any w _ _ a n c n' c' Yba.underlying23
  have hmk22 := make22 n hn
  have HX : Hid (0 < n → ∃ rb ro, x = ⟨rb, ro, none⟩ ∧ Rules w rb ro n T A L C s) := hx
  clear hx
  have C0 : Hid (Cloned w n 0 T A L s (w.alloc (.cells (zrules n) 25))) :=
    ⟨fun i => (zrules n).getD i undef, fun _ => none, by
      have h := World.rowIs_alloc w (zrules n) 25 (fun i => (zrules n).getD i undef) (fun i hi => by simp [hi])
      simpa only [zrules, size_madeCells] using h, fun i hi => absurd hi (Nat.not_lt_zero _), (Below.refl _ w).alloc (Nat.le_refl _) _⟩
  go_enter Yba.func4, Yba.ntmps4
  go_wp2
  go_loopg [14] n (fun g s14 wr => ∃ k : Nat, k ≤ n ∧ n - k ≤ g ∧ s14 = .int .i64 k ∧ Cloned w n k T A L s wr)
  case atStart => exact ⟨0, Nat.zero_le _, by omega, rfl, C0.out⟩
  case round =>
    obtain ⟨k, hk, hg, rfl, hC⟩ := hrel
    by_cases hlt : k < n
    · obtain ⟨rb, ro, rfl, hR⟩ := HX.out (by omega)
      have hrb := hR.lt (by omega)
      obtain ⟨f, A', hrow, hold, hb⟩ := hC
      obtain ⟨c0, c1, hv⟩ := hR k hlt
      rw [← hb.cell (p := ⟨rb, ro + k * 2, none⟩) hrb] at c0
      rw [← hb.cell (p := ⟨rb, ro + k * 2 + 1, none⟩) hrb] at c1
      have hgs := hrow.lt
      have g0 := hrow.cell (show k * 2 < n * 2 by omega)
      have f0 := hrow.frozen (k * 2)
      have g1 := hrow.cell (show k * 2 + 1 < n * 2 by omega)
      have f1 := hrow.frozen (k * 2 + 1)
      have HO : Hid (wr.rowIs w.heap.size 25 (n * 2) f ∧ (∀ i, i < k → f (i * 2) = .string (T i) ∧ f (i * 2 + 1) = .slice (A' i) (L i) (L i) ∧ Own wr w.heap.size (A i) (A' i) (L i) (s i)) ∧ Below w.heap.size w wr) := ⟨hrow, hold, hb⟩
      have HV : Hid (Vals w (A k) (L k) (s k)) := hv
      clear hrow hold hb hv hR HX
      cases hA : A k with
      | none =>
        rw [hA] at c1
        go_wp2_with fail
        go_roundg (n - (k + 1))
        case measure => omega
        case rel =>
          refine ⟨k + 1, by omega, by omega, by go_num, ?_⟩
          have hl0 : L k = 0 := HV.out.1 hA
          refine cloned_step HO.out none ?_ (by simp) (fun b hb1 hb2 => ?_) ?_ ⟨by rw [hA], fun _ => hl0, fun x hx => by cases hx⟩
          · rw [hl0]
            exact ((HO.out.1.set (k * 2) _).set (k * 2 + 1) _).alloc _
          · rw [Below.heap_alloc _ _ _ (by simpa using hb2), heap_set_other _ _ _ _ (by show b ≠ w.heap.size; omega), heap_set_other _ _ _ _ (by show b ≠ w.heap.size; omega)]
          · exact ((HO.out.2.2.setCell (Nat.le_refl _) _).setCell (Nat.le_refl _) _).alloc (by simp; omega) _
      | some y =>
        rw [hA] at c1
        have hmk23 := make23 (L k) (hL k hlt)
        go_wp2_with (refine wpList_copy_splice rfl (.tmp 26) (.tmp 28) 23 23 rfl 9 Yba.underlying23 size9 (some ⟨wr.heap.size + 1, 0, none⟩) (some y) (L k) (L k) (L k) (C k) rfl rfl (wr.heap.size + 1) 0 (zstrs (L k)).toList 9 ?h1 ((List.range (L k)).map fun j => .string (s k j)) ?h2 ?h3 ?h4 ?h5 (wr.heap.size + 1) (wr.alloc (.cells #[.string (T k), .slice (some y) (L k) (C k)] 25)) ?h6 (Nat.le_refl _) ?_)
        case h1 =>
          have := heap_alloc_new (wr.alloc (.cells #[.string (T k), .slice (some y) (L k) (C k)] 25)) (.cells (zstrs (L k)) 9)
          simpa using this
        case h2 => simp
        case h3 =>
          intro hpos
          have hpos' : 0 < L k := by simpa using hpos
          obtain ⟨b, o, hy, hc⟩ := HV.out.2 hpos'
          rw [hA] at hy
          cases hy
          intro j v hj
          obtain ⟨hjl, hv⟩ := List.getElem?_eq_some_iff.1 hj
          simp at hjl hv
          subst hv
          rw [Addr.add_lit]
          have h0 := HO.out.2.2.cell (p := ⟨b, o + j, none⟩) (World.block_lt_of_cell? w _ (hc j hjl))
          exact Lib.cell?_alloc_some _ (Lib.cell?_alloc_some _ (h0.trans (hc j hjl)))
        case h4 => simp [zstrs, size_madeCells]
        case h5 =>
          intro v hv
          simp only [List.mem_map] at hv
          obtain ⟨_, _, rfl⟩ := hv
          rfl
        case h6 => exact (Below.refl _ _).alloc (by simp) _
        intro w5 hw5 hb5
        have e0 : w5.cell? ⟨wr.heap.size, 0, none⟩ = some (.string (T k)) := by
          rw [hb5.cell (p := ⟨wr.heap.size, 0, none⟩) (by simp), World.cell?_alloc_at _ _ _ _ rfl]; rfl
        have e1 : w5.cell? ⟨w.heap.size, k * 2, none⟩ = some (f (k * 2)) := by
          rw [hb5.cell (p := ⟨w.heap.size, k * 2, none⟩) (by simp; omega), World.cell?_alloc_past _ _ _ hgs, g0]
        have e2 : w5.cell? ⟨w.heap.size, k * 2 + 1, none⟩ = some (f (k * 2 + 1)) := by
          rw [hb5.cell (p := ⟨w.heap.size, k * 2 + 1, none⟩) (by simp; omega), World.cell?_alloc_past _ _ _ hgs, g1]
        have e3 : w5.frozen? ⟨w.heap.size, k * 2, none⟩ = false := by
          rw [hb5.frozen (p := ⟨w.heap.size, k * 2, none⟩) (by simp; omega), World.frozen?_alloc_past _ _ _ hgs, f0]
        have e4 : w5.frozen? ⟨w.heap.size, k * 2 + 1, none⟩ = false := by
          rw [hb5.frozen (p := ⟨w.heap.size, k * 2 + 1, none⟩) (by simp; omega), World.frozen?_alloc_past _ _ _ hgs, f1]
        go_wp2_with fail
        go_roundg (n - (k + 1))
        case measure => omega
        case rel =>
          have hz5 : wr.heap.size + 1 < w5.heap.size := (Array.getElem?_eq_some_iff.1 hw5.out).1
          refine ⟨k + 1, by omega, by omega, by go_num, ?_⟩
          have hrow5 : w5.rowIs w.heap.size 25 (n * 2) f := (HO.out.1.alloc _).of_block (hb5.block _ (by omega))
          have hblk : ∀ b, b < wr.heap.size → w5.heap[b]? = wr.heap[b]? := fun b hb => by
            rw [hb5.block b (by omega), Below.heap_alloc _ _ _ hb]
          refine cloned_step HO.out (some ⟨wr.heap.size + 1, 0, none⟩) ((hrow5.set (k * 2) _).set (k * 2 + 1) _) (by simp; omega) (fun b hb1 hb2 => ?_) ?_ ⟨by rw [hA]; rfl, (fun h => by cases h), fun x hx => ?_⟩
          · rw [heap_set_other _ _ _ _ (by show b ≠ w.heap.size; omega), heap_set_other _ _ _ _ (by show b ≠ w.heap.size; omega), hblk b hb2]
          · have hbw : Below w.heap.size w w5 := (HO.out.2.2.alloc (by omega) _).trans (hb5.mono (by omega))
            exact (hbw.setCell (Nat.le_refl _) _).setCell (Nat.le_refl _) _
          · cases hx
            refine ⟨_, rfl, by omega, by simpa using hz5, fun j hj => ?_⟩
            have hb : ((w5.setCell ⟨w.heap.size, k * 2, none⟩ (.string (T k))).setCell ⟨w.heap.size, k * 2 + 1, none⟩ (.slice (some ⟨wr.heap.size + 1, 0, none⟩) (L k) (L k))).heap[wr.heap.size + 1]? = w5.heap[wr.heap.size + 1]? := by
              rw [heap_set_other _ _ _ _ (by show wr.heap.size + 1 ≠ w.heap.size; omega), heap_set_other _ _ _ _ (by show wr.heap.size + 1 ≠ w.heap.size; omega)]
            rw [World.cell?_of_block (w := w5) hb, cell_of_row _ _ _ _ _ _ hw5.out]
            have hlen : j < ((List.range (L k)).map fun j => Value.string (s k j)).length := by simpa using hj
            have hcat : ∀ X : List Value, (((List.range (L k)).map fun j => Value.string (s k j)) ++ X)[j]? = some (.string (s k j)) := fun X => by
              rw [List.getElem?_append_left hlen]
              simp [hj]
            simpa [splice] using hcat _
    · have : k = n := by omega
      subst this
      clear HX
      go_wp2
      go_ret
      exact ⟨rfl, hC⟩

end Go.Proofs.Ybulkejvc
