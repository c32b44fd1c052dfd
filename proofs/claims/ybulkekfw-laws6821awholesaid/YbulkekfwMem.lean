import Derived.Test.YbulkekfwLib
import Derived.Deep.OwnRows
import Derived.Laws.CopyOwn
namespace Go.Proofs.Ybulkekfw
open Go.RowKit

theorem later {w wx : World} {a : Addr} {v : Value} (hb : Below w.heap.size w wx) (h : w.cell? a = some v) : wx.cell? a = some v := (hb.cell (World.block_lt_of_cell? _ _ h)).trans h

/-! ### string(..) of a row -/
theorem conv_any (w : World) (x : Addr) (len cap : Nat) (xs : List Int) (hlen : xs.length = len) (hcell : ∀ i, i < len → w.cell? (x.add i) = some (.int .u8 (xs.getD i 0))) :
    (convert 22 9 (.slice (some x) len cap)).run Yba.prog w = .ok (.string (strOfNums xs)) w := by
  by_cases h0 : len = 0
  · subst h0
    obtain rfl := List.eq_nil_of_length_eq_zero hlen
    rw [run_convert_bytes_string w 22 9 5 _ 0 cap Yba.underlying22 Yba.underlying5 Yba.underlying9, run_bytesToString w _ 0 cap [] (run_loadCells_list (P := Yba.prog) w x [] (fun j v hj => by simp at hj))]
    rfl
  · obtain ⟨b, off, spot⟩ := x
    have hs : spot = none := by simpa [Addr.add] using World.cell?_spot (hcell 0 (by omega))
    subst hs
    exact run_convert_bytes_arg w 22 5 Yba.underlying22 Yba.underlying5 b off len cap xs hlen (fun i hi => by rw [← Addr.add_lit]; exact hcell i hi) 9 Yba.underlying9

/-! ### make -/
def zbytes (n : Nat) : Array Value := madeCells #[.int .u8 0] n
theorem info5 : (Yba.prog.info? 5).map (fun i => (i.zero, i.size, i.bytes)) = some (some (.int .u8 0), 1, 1) := by kernel_rfl
theorem make22 (n : Nat) (hn : n ≤ 1048576) (w : World) : (Instr.makeSlice 22 (.int .i64 (n : Int)) (.int .i64 (n : Int))).run Yba.prog w = .ok (.slice (some ⟨w.heap.size, 0, none⟩) n n) (w.alloc (.cells (zbytes n) 5)) :=
  run_make_row' 22 5 (.int .u8 0) 1 Yba.underlying22 info5 rfl .i64 .i64 n (by omega) (by omega) w
theorem size5 : (Yba.prog.info? 5).map (·.size) = some 1 := by kernel_rfl

/-! ### The transaction and the request in memory -/
structure Tr (w : World) (bt : Nat) (iv : Bool) (tr s x3 x4 x5 : Int) (la : Value) (ak : Bool) : Prop where
  c0 : w.cell? ⟨bt, 0, none⟩ = some (.bool iv)
  c1 : w.cell? ⟨bt, 1, none⟩ = some (.int .u8 tr)
  c2 : w.cell? ⟨bt, 2, none⟩ = some (.int .u8 s)
  c3 : w.cell? ⟨bt, 3, none⟩ = some (.int .i64 x3)
  c4 : w.cell? ⟨bt, 4, none⟩ = some (.int .i64 x4)
  c5 : w.cell? ⟨bt, 5, none⟩ = some (.int .i64 x5)
  c6 : w.cell? ⟨bt, 6, none⟩ = some la
  c7 : w.cell? ⟨bt, 7, none⟩ = some (.bool ak)
structure Rq (w : World) (br : Nat) (m : ByteArray) : Prop where
  d0 : w.cell? ⟨br, 0, none⟩ = some (.string m)
  d4 : w.cell? ⟨br, 4, none⟩ = some (.slice none 0 0)
  d5 : w.cell? ⟨br, 5, none⟩ = some (.slice none 0 0)
theorem Tr.drewN {w : World} {bt : Nat} {iv : Bool} {tr s x3 x4 x5 : Int} {la : Value} {ak : Bool} (h : Tr w bt iv tr s x3 x4 x5 la ak) (q : Nat) : Tr (w.drewN q) bt iv tr s x3 x4 x5 la ak := ⟨h.c0, h.c1, h.c2, h.c3, h.c4, h.c5, h.c6, h.c7⟩
theorem Rq.drewN {w : World} {br : Nat} {m : ByteArray} (h : Rq w br m) (q : Nat) : Rq (w.drewN q) br m := ⟨h.d0, h.d4, h.d5⟩
theorem below_drewN {B : Nat} {a w : World} (h : Below B a w) (n : Nat) : Below B a (w.drewN n) := ⟨h.os, h.tape, h.output, h.size, h.block⟩

/-- The two boxes, as they are made. -/
theorem boxes (w : World) (iv : Bool) (tr s x3 x4 x5 : Int) (la : Value) (ak : Bool) (m : ByteArray) (v1 v2 v3 v6 : Value) (W : World)
    (hW : (w.alloc (.cells #[.bool iv, .int .u8 tr, .int .u8 s, .int .i64 x3, .int .i64 x4, .int .i64 x5, la, .bool ak] 30)).alloc (.cells #[.string m, v1, v2, v3, .slice none 0 0, .slice none 0 0, v6] 35) = W) :
    Tr W w.heap.size iv tr s x3 x4 x5 la ak ∧ Rq W (w.heap.size + 1) m ∧ (∀ i, W.frozen? ⟨w.heap.size, i, none⟩ = false) ∧ Below w.heap.size w W := by
  subst hW
  have h1 : ∀ i, ((w.alloc (.cells #[.bool iv, .int .u8 tr, .int .u8 s, .int .i64 x3, .int .i64 x4, .int .i64 x5, la, .bool ak] 30)).alloc (.cells #[.string m, v1, v2, v3, .slice none 0 0, .slice none 0 0, v6] 35)).cell? ⟨w.heap.size, i, none⟩ = #[.bool iv, .int .u8 tr, .int .u8 s, .int .i64 x3, .int .i64 x4, .int .i64 x5, la, .bool ak][i]? := fun i => by
    rw [World.cell?_alloc_past _ _ _ (by simp only [World.size_alloc]; omega), World.cell?_alloc_at _ _ _ _ rfl]
  have h2 : ∀ i, ((w.alloc (.cells #[.bool iv, .int .u8 tr, .int .u8 s, .int .i64 x3, .int .i64 x4, .int .i64 x5, la, .bool ak] 30)).alloc (.cells #[.string m, v1, v2, v3, .slice none 0 0, .slice none 0 0, v6] 35)).cell? ⟨w.heap.size + 1, i, none⟩ = #[.string m, v1, v2, v3, .slice none 0 0, .slice none 0 0, v6][i]? := fun i => by
    rw [World.cell?_alloc_at _ _ _ _ (by simp only [World.size_alloc])]
  refine ⟨⟨h1 0, h1 1, h1 2, h1 3, h1 4, h1 5, h1 6, h1 7⟩, ⟨h2 0, h2 4, h2 5⟩, fun i => ?_, ((Below.refl _ w).alloc (Nat.le_refl _) _).alloc (by simp only [World.size_alloc]; omega) _⟩
  rw [World.frozen?_alloc_past _ _ _ (by simp only [World.size_alloc]; omega)]
  simp

theorem Tr.set7 {w : World} {bt : Nat} {iv : Bool} {tr s x3 x4 x5 : Int} {la : Value} {ak : Bool} (h : Tr w bt iv tr s x3 x4 x5 la ak) (v : Bool) : Tr (w.setCell ⟨bt, 7, none⟩ (.bool v)) bt iv tr s x3 x4 x5 la v :=
  ⟨(World.cell?_setCell_other _ _ _ _ (by simp)).trans h.c0, (World.cell?_setCell_other _ _ _ _ (by simp)).trans h.c1, (World.cell?_setCell_other _ _ _ _ (by simp)).trans h.c2, (World.cell?_setCell_other _ _ _ _ (by simp)).trans h.c3, (World.cell?_setCell_other _ _ _ _ (by simp)).trans h.c4, (World.cell?_setCell_other _ _ _ _ (by simp)).trans h.c5, (World.cell?_setCell_other _ _ _ _ (by simp)).trans h.c6, World.cell?_setCell_same _ _ _ h.c7⟩
theorem Tr.set2 {w : World} {bt : Nat} {iv : Bool} {tr s x3 x4 x5 : Int} {la : Value} {ak : Bool} (h : Tr w bt iv tr s x3 x4 x5 la ak) (v : Int) : Tr (w.setCell ⟨bt, 2, none⟩ (.int .u8 v)) bt iv tr v x3 x4 x5 la ak :=
  ⟨(World.cell?_setCell_other _ _ _ _ (by simp)).trans h.c0, (World.cell?_setCell_other _ _ _ _ (by simp)).trans h.c1, World.cell?_setCell_same _ _ _ h.c2, (World.cell?_setCell_other _ _ _ _ (by simp)).trans h.c3, (World.cell?_setCell_other _ _ _ _ (by simp)).trans h.c4, (World.cell?_setCell_other _ _ _ _ (by simp)).trans h.c5, (World.cell?_setCell_other _ _ _ _ (by simp)).trans h.c6, (World.cell?_setCell_other _ _ _ _ (by simp)).trans h.c7⟩
theorem Tr.set4 {w : World} {bt : Nat} {iv : Bool} {tr s x3 x4 x5 : Int} {la : Value} {ak : Bool} (h : Tr w bt iv tr s x3 x4 x5 la ak) (v : Int) : Tr (w.setCell ⟨bt, 4, none⟩ (.int .i64 v)) bt iv tr s x3 v x5 la ak :=
  ⟨(World.cell?_setCell_other _ _ _ _ (by simp)).trans h.c0, (World.cell?_setCell_other _ _ _ _ (by simp)).trans h.c1, (World.cell?_setCell_other _ _ _ _ (by simp)).trans h.c2, (World.cell?_setCell_other _ _ _ _ (by simp)).trans h.c3, World.cell?_setCell_same _ _ _ h.c4, (World.cell?_setCell_other _ _ _ _ (by simp)).trans h.c5, (World.cell?_setCell_other _ _ _ _ (by simp)).trans h.c6, (World.cell?_setCell_other _ _ _ _ (by simp)).trans h.c7⟩
theorem Tr.set5 {w : World} {bt : Nat} {iv : Bool} {tr s x3 x4 x5 : Int} {la : Value} {ak : Bool} (h : Tr w bt iv tr s x3 x4 x5 la ak) (v : Int) : Tr (w.setCell ⟨bt, 5, none⟩ (.int .i64 v)) bt iv tr s x3 x4 v la ak :=
  ⟨(World.cell?_setCell_other _ _ _ _ (by simp)).trans h.c0, (World.cell?_setCell_other _ _ _ _ (by simp)).trans h.c1, (World.cell?_setCell_other _ _ _ _ (by simp)).trans h.c2, (World.cell?_setCell_other _ _ _ _ (by simp)).trans h.c3, (World.cell?_setCell_other _ _ _ _ (by simp)).trans h.c4, World.cell?_setCell_same _ _ _ h.c5, (World.cell?_setCell_other _ _ _ _ (by simp)).trans h.c6, (World.cell?_setCell_other _ _ _ _ (by simp)).trans h.c7⟩
theorem Rq.set {w : World} {br : Nat} {m : ByteArray} (h : Rq w br m) (bt i : Nat) (hne : br ≠ bt) (v : Value) : Rq (w.setCell ⟨bt, i, none⟩ v) br m :=
  ⟨(World.cell?_setCell_other _ _ _ _ (fun e => hne (congrArg Addr.block e).symm)).trans h.d0, (World.cell?_setCell_other _ _ _ _ (fun e => hne (congrArg Addr.block e).symm)).trans h.d4, (World.cell?_setCell_other _ _ _ _ (fun e => hne (congrArg Addr.block e).symm)).trans h.d5⟩
theorem below_set {B : Nat} {a w : World} (h : Below B a w) (bt i : Nat) (hb : B ≤ bt) (v : Value) : Below B a (w.setCell ⟨bt, i, none⟩ v) := h.setCell (p := ⟨bt, i, none⟩) hb v

/-- What Receive leaves: does an ACK move the transaction? -/
def moves (m : ByteArray) (iv : Bool) (s : Int) : Bool := isAck m && iv && (s == 3)

theorem recv_law (bt br : Nat) (iv : Bool) (tr s x3 x4 x5 : Int) (a : Option Addr) (n c : Nat) (ak : Bool) (m : ByteArray) (now : Int) (w : World) (hne : br ≠ bt) (ht : Tr w bt iv tr s x3 x4 x5 (.slice a n c) ak) (hr : Rq w br m) (hf : ∀ i, w.frozen? ⟨bt, i, none⟩ = false) :
    Calls Yba.prog 4 #[.pointer (some ⟨bt, 0, none⟩), .pointer (some ⟨br, 0, none⟩), .int .i64 now] w fun e w' =>
      e = .returned (if isAck m = true then .slice none 0 0 else .slice a n c) ∧
      Tr w' bt iv tr (if moves m iv s = true then 4 else s) x3 (if moves m iv s = true then 0 else x4) (if moves m iv s = true then wrap64 (now + 5000000000) else x5) (.slice a n c) (if moves m iv s = true then true else ak) ∧ Rq w' br m ∧ Below bt w w' := by
  cases ha : isAck m with
  | false =>
    have hm : moves m iv s = false := by simp [moves, ha]
    refine (recv_other bt br m a n c now w hr.d0 ht.c6 ha).mono ?_
    rintro e w' ⟨rfl, rfl⟩
    simp only [hm, Bool.false_eq_true, if_false]
    exact ⟨trivial, ht, hr, Below.refl _ _⟩
  | true =>
    by_cases h3 : iv = true ∧ s = 3
    · obtain ⟨rfl, rfl⟩ := h3
      have hm : moves m true 3 = true := by simp [moves, ha]
      refine (recv_move bt br m x4 x5 ak now w hr.d0 ht.c2 ht.c0 ht.c4 ht.c5 ht.c7 ha hf).mono ?_
      rintro e w' ⟨rfl, rfl⟩
      simp only [hm, if_true]
      exact ⟨trivial, (((ht.set7 true).set2 4).set4 0).set5 _, (((hr.set bt 7 hne _).set bt 2 hne _).set bt 4 hne _).set bt 5 hne _, below_set (below_set (below_set (below_set (Below.refl _ _) bt 7 (Nat.le_refl _) _) bt 2 (Nat.le_refl _) _) bt 4 (Nat.le_refl _) _) bt 5 (Nat.le_refl _) _⟩
    · have hm : moves m iv s = false := by
        simp only [moves, ha, Bool.true_and, Bool.and_eq_false_iff]
        by_cases h1 : iv = true
        · exact .inr (by simpa using fun h => h3 ⟨h1, h⟩)
        · exact .inl (by simpa using h1)
      refine (recv_stay bt br m iv s now w hr.d0 ht.c2 ht.c0 ha (fun h => by simpa using fun h1 => h3 ⟨h1, h⟩)).mono ?_
      rintro e w' ⟨rfl, rfl⟩
      simp only [hm, Bool.false_eq_true, if_false, if_true]
      exact ⟨trivial, ht, hr, Below.refl _ _⟩
end Go.Proofs.Ybulkekfw
