import Derived.Test.YbulkekfwMem
import Derived.Deep.LoopGhost
import Derived.Deep.DeepCutAuto
import Derived.Deep.CutBlock
namespace Go.Proofs.Ybulkekfw
open Go.RowKit

/-- What the walk is told of a slice of bytes that came in. -/
def IsRow (w : World) (a : Option Addr) (len cap : Nat) (zs : List Int) : Prop :=
  (a = none ∧ len = 0 ∧ cap = 0 ∧ zs = []) ∨
  ∃ x, a = some x ∧ zs.length = len ∧ ∀ i, i < len → w.cell? (x.add i) = some (.int .u8 (zs.getD i 0))

/-- What the walk knows of the copy: the slice itself, and what two callees say of it. -/
def IsOwn (w wc : World) (a b : Option Addr) (n c : Nat) (len cap : Nat) : Prop :=
  (∀ W, Calls Yba.prog 5 #[.slice a n c, .slice a n c] W fun e w' => e = .returned (.bool true) ∧ ∃ q, w' = W.drewN q) ∧
  (∀ W, Below wc.heap.size wc W → Calls Yba.prog 6 #[.slice a n c, .slice b len cap] W fun e w' => e = .returned (.bool true) ∧ w' = W) ∧ Below w.heap.size w wc

theorem own_nil (w : World) : IsOwn w w none none 0 0 0 0 :=
  ⟨fun W => same_nil W, fun W _ => eq_same _ _ ByteArray.empty W (run_convert_bytes_nil W 22 5 Yba.underlying22 Yba.underlying5 0 0 9 Yba.underlying9) (run_convert_bytes_nil W 22 5 Yba.underlying22 Yba.underlying5 0 0 9 Yba.underlying9), Below.refl _ _⟩

theorem own_row {w w5 : World} {x : Addr} {n cap : Nat} {zs : List Int} (hl : zs.length = n) (hc : ∀ i, i < n → w.cell? (x.add i) = some (.int .u8 (zs.getD i 0)))
    (hw : w5.heap[w.heap.size]? = some (.cells (splice (zbytes n).toList 0 (zs.map (Value.int .u8))).toArray 5 (0, 0))) (hb : Below w.heap.size w w5) : IsOwn w w5 (some ⟨w.heap.size, 0, none⟩) (some x) n n n cap := by
  have hlt : w.heap.size < w5.heap.size := (Array.getElem?_eq_some_iff.1 hw).1
  refine ⟨fun W => same_row _ _ W, fun W hW => ?_, hb⟩
  refine eq_same _ _ (strOfNums zs) W (conv_any W _ n n zs hl fun i hi => ?_) (conv_any W x n cap zs hl fun i hi => ?_)
  · have e : (⟨w.heap.size, 0, none⟩ : Addr).add i = ⟨w.heap.size, i, none⟩ := by rw [Addr.add_lit, Nat.zero_add]
    have hlen : i < (zs.map (Value.int .u8)).length := by simpa [hl] using hi
    have hz : i < zs.length := by omega
    have hcat : ∀ X : List Value, (zs.map (Value.int .u8) ++ X)[i]? = some (.int .u8 (zs.getD i 0)) := fun X => by
      rw [List.getElem?_append_left hlen]
      simp [List.getD, List.getElem?_eq_getElem hz]
    rw [e]
    refine later hW ?_
    rw [cell_of_row _ _ _ _ _ _ hw]
    simpa [splice] using hcat _
  · exact later hW (later hb (hc i hi))

set_option maxHeartbeats 400000 in
set_option maxRecDepth 100000 in
theorem law_many (a0 : ByteArray) (a1 : Int) (a2 : Bool) (a3 a4 a5 a6 a7 : Int) (a8 : Option Addr) (len8 cap8 : Nat) (a9 : Bool) (a10 : Int) (w : World) (hn : 1048576 < len8) :
    Calls Yba.prog 3 #[.string a0, .int .u8 a1, .bool a2, .int .u8 a3, .int .u8 a4, .int .i64 a5, .int .i64 a6, .int .i64 a7, .slice a8 len8 cap8, .bool a9, .int .i64 a10] w fun e w' => e = .returned (.bool true) ∧ Below w.heap.size w w' := by
  have hn' : (1048576 : Int) < (len8 : Int) := by omega
  go_enter Yba.func3, Yba.ntmps3
  go_wp2
  go_ret
  exact ⟨rfl, Below.refl _ _⟩

set_option maxHeartbeats 4000000 in
set_option maxRecDepth 100000 in
theorem law_walk (a0 : ByteArray) (a1 : Int) (a2 : Bool) (a3 a4 a5 a6 a7 : Int) (a8 : Option Addr) (len8 cap8 : Nat) (zs : List Int) (a9 : Bool) (a10 : Int) (w : World) (b1 : 0 ≤ a1 ∧ a1 ≤ 255) (hn : len8 ≤ 1048576) (hz : IsRow w a8 len8 cap8 zs) :
    Calls Yba.prog 3 #[.string a0, .int .u8 a1, .bool a2, .int .u8 a3, .int .u8 a4, .int .i64 a5, .int .i64 a6, .int .i64 a7, .slice a8 len8 cap8, .bool a9, .int .i64 a10] w fun e w' => e = .returned (.bool true) ∧ Below w.heap.size w w' := by
  have hn' : (len8 : Int) ≤ 1048576 := by omega
  have HZ : Hid (IsRow w a8 len8 cap8 zs) := hz
  clear hz
  have q22' := q22
  have n22' := n22
  have n33' := n33
  have hmk := make22 len8 hn
  go_enter Yba.func3, Yba.ntmps3
  go_upto_block 0 with fail
  go_cut [23] (fun s23 wc => (∃ m, s23 = .string m) ∧ w = wc)
  case first =>
    go_wp2
    all_goals go_meet
    all_goals exact ⟨⟨_, rfl⟩, rfl⟩
  case rest =>
    obtain ⟨⟨m, rfl⟩, rfl⟩ := hcut
    go_upto_if 48 with fail
    go_cut [24] (fun s24 wc => ∃ a n c, s24 = .slice a n c ∧ IsOwn w wc a a8 n c len8 cap8)
    case first =>
      rcases HZ.out with ⟨rfl, rfl, rfl, rfl⟩ | ⟨x, rfl, hzl, hzc⟩
      · go_wp2
        go_meet
        case rel => exact ⟨_, _, _, rfl, own_nil w⟩
      · have hcv : Hid (∀ i, i < len8 → w.cell? (x.add i) = some (.int .u8 (zs.getD i 0))) := hzc
        clear hzc
        go_wp2_with (refine wpList_copy_splice rfl (.tmp 52) (.tmp 53) 22 22 rfl 5 Yba.underlying22 size5 (some ⟨w.heap.size, 0, none⟩) (some x) len8 len8 len8 cap8 rfl rfl w.heap.size 0 (zbytes len8).toList 5 ?h1 (zs.map (Value.int .u8)) ?h2 ?h3 ?h4 ?h5 w.heap.size w ?h6 (Nat.le_refl _) ?_)
        case h1 => simpa using heap_alloc_new w (.cells (zbytes len8) 5)
        case h2 => simp [hzl]
        case h3 =>
          intro _ j v hj
          obtain ⟨hjl, hv⟩ := List.getElem?_eq_some_iff.1 hj
          have hc := hcv.out j (by omega)
          rw [Lib.cell?_alloc_some _ hc, ← hv]
          simp [List.getD, List.getElem?_eq_getElem hjl]
        case h4 => simp [zbytes, size_madeCells, hzl]
        case h5 =>
          intro v hv
          simp only [List.mem_map] at hv
          obtain ⟨_, _, rfl⟩ := hv
          rfl
        case h6 => exact (Below.refl _ _).alloc (Nat.le_refl _) _
        intro w5 hw5 hb5
        go_wp2
        go_meet
        case rel => exact ⟨_, _, _, rfl, own_row hzl hcv.out hw5.out hb5⟩
    case rest =>
      obtain ⟨a, n, c, rfl, hs, he, hb⟩ := hcut
      have HS : Hid (∀ W, Calls Yba.prog 5 #[.slice a n c, .slice a n c] W fun e w' => e = .returned (.bool true) ∧ ∃ q, w' = W.drewN q) := hs
      have HE : Hid (∀ W, Below wc.heap.size wc W → Calls Yba.prog 6 #[.slice a n c, .slice a8 len8 cap8] W fun e w' => e = .returned (.bool true) ∧ w' = W) := he
      have HB : Hid (Below w.heap.size w wc) := hb
      clear hs he hb hmk HZ
      go_wp2_with fail
      generalize (wrap64 a4).tmod 6 % 256 = s
      generalize hW : (wc.alloc (.cells #[.bool a2, .int .u8 a3, .int .u8 s, .int .i64 a5, .int .i64 a6, .int .i64 a7, .slice a n c, .bool a9] 30)).alloc (.cells #[.string m, .string ⟨#[]⟩, .int .i64 0, .string ⟨#[]⟩, .slice none 0 0, .slice none 0 0, .int .u8 0] 35) = w6
      obtain ⟨hT, hR, hf, hb6⟩ := boxes wc a2 a3 s a5 a6 a7 (.slice a n c) a9 m _ _ _ _ w6 hW
      refine (recv_law wc.heap.size (wc.heap.size + 1) a2 a3 s a5 a6 a7 a n c a9 m a10 w6 (by omega) hT hR hf).mono ?_
      clear hT hR hf hW
      rintro e W0 ⟨rfl, hT0, hR0, hb7⟩
      have B0 : Hid (Below wc.heap.size wc W0) := hb6.trans hb7
      clear hb6 hb7
      cases ha : isAck m with
      | false =>
        have hm : moves m a2 s = false := by simp [moves, ha]
        simp only [hm, Bool.false_eq_true, if_false] at hT0 ⊢
        unfold isAck at ha
        obtain ⟨c0, c1, c2, c3, c4, c5, c6, c7⟩ := id hT0
        obtain ⟨d0, d4, d5⟩ := id hR0
        go_wp2_with fail
        refine (HS.out _).mono ?_
        rintro e w' ⟨rfl, q, rfl⟩
        have hT1 := hT0.drewN q
        have hR1 := hR0.drewN q
        have B1 : Hid (Below wc.heap.size wc (W0.drewN q)) := below_drewN B0.out q
        clear hT0 hR0 B0 c0 c1 c2 c3 c4 c5 c6 c7 d0 d4 d5
        generalize W0.drewN q = W1 at hT1 hR1 B1 ⊢
        obtain ⟨c0, c1, c2, c3, c4, c5, c6, c7⟩ := id hT1
        obtain ⟨d0, d4, d5⟩ := id hR1
        go_wp2_with fail
        refine (HS.out _).mono ?_
        rintro e w' ⟨rfl, q, rfl⟩
        have hT2 := hT1.drewN q
        have hR2 := hR1.drewN q
        have B2 : Hid (Below wc.heap.size wc (W1.drewN q)) := below_drewN B1.out q
        clear hT1 hR1 B1 c0 c1 c2 c3 c4 c5 c6 c7 d0 d4 d5
        generalize W1.drewN q = W2 at hT2 hR2 B2 ⊢
        obtain ⟨c0, c1, c2, c3, c4, c5, c6, c7⟩ := id hT2
        obtain ⟨d0, d4, d5⟩ := id hR2
        go_wp2_with fail
        refine (HE.out _ B2.out).mono ?_
        rintro e w' ⟨rfl, rfl⟩
        go_wp2
        go_ret
        exact ⟨rfl, HB.out.trans (B2.out.mono HB.out.size)⟩
      | true =>
        cases a2 with
        | false =>
          have hm : moves m false s = false := by simp [moves]
          simp only [hm, Bool.false_eq_true, if_false, if_true] at hT0 ⊢
          unfold isAck at ha
          obtain ⟨c0, c1, c2, c3, c4, c5, c6, c7⟩ := id hT0
          obtain ⟨d0, d4, d5⟩ := id hR0
          go_wp2_with fail
          refine (HS.out _).mono ?_
          rintro e w' ⟨rfl, q, rfl⟩
          have hT1 := hT0.drewN q
          have hR1 := hR0.drewN q
          have B1 : Hid (Below wc.heap.size wc (W0.drewN q)) := below_drewN B0.out q
          clear hT0 hR0 B0 c0 c1 c2 c3 c4 c5 c6 c7 d0 d4 d5
          generalize W0.drewN q = W1 at hT1 hR1 B1 ⊢
          obtain ⟨c0, c1, c2, c3, c4, c5, c6, c7⟩ := id hT1
          obtain ⟨d0, d4, d5⟩ := id hR1
          go_wp2_with fail
          refine (HE.out _ B1.out).mono ?_
          rintro e w' ⟨rfl, rfl⟩
          go_wp2
          go_ret
          exact ⟨rfl, HB.out.trans (B1.out.mono HB.out.size)⟩
        | true =>
          by_cases h3 : s = 3
          · subst h3
            have hm : moves m true 3 = true := by simp [moves, ha]
            simp only [hm, if_true] at hT0 ⊢
            unfold isAck at ha
            obtain ⟨c0, c1, c2, c3, c4, c5, c6, c7⟩ := id hT0
            obtain ⟨d0, d4, d5⟩ := id hR0
            go_wp2_with fail
            refine (HS.out _).mono ?_
            rintro e w' ⟨rfl, q, rfl⟩
            have hT1 := hT0.drewN q
            have hR1 := hR0.drewN q
            have B1 : Hid (Below wc.heap.size wc (W0.drewN q)) := below_drewN B0.out q
            clear hT0 hR0 B0 c0 c1 c2 c3 c4 c5 c6 c7 d0 d4 d5
            generalize W0.drewN q = W1 at hT1 hR1 B1 ⊢
            obtain ⟨c0, c1, c2, c3, c4, c5, c6, c7⟩ := id hT1
            obtain ⟨d0, d4, d5⟩ := id hR1
            go_wp2_with fail
            refine (HE.out _ B1.out).mono ?_
            rintro e w' ⟨rfl, rfl⟩
            go_wp2
            go_ret
            exact ⟨rfl, HB.out.trans (B1.out.mono HB.out.size)⟩
          · have hm : moves m true s = false := by simp [moves, h3]
            simp only [hm, Bool.false_eq_true, if_false, if_true] at hT0 ⊢
            unfold isAck at ha
            obtain ⟨c0, c1, c2, c3, c4, c5, c6, c7⟩ := id hT0
            obtain ⟨d0, d4, d5⟩ := id hR0
            go_wp2_with fail
            refine (HS.out _).mono ?_
            rintro e w' ⟨rfl, q, rfl⟩
            have hT1 := hT0.drewN q
            have hR1 := hR0.drewN q
            have B1 : Hid (Below wc.heap.size wc (W0.drewN q)) := below_drewN B0.out q
            clear hT0 hR0 B0 c0 c1 c2 c3 c4 c5 c6 c7 d0 d4 d5
            generalize W0.drewN q = W1 at hT1 hR1 B1 ⊢
            obtain ⟨c0, c1, c2, c3, c4, c5, c6, c7⟩ := id hT1
            obtain ⟨d0, d4, d5⟩ := id hR1
            go_wp2_with fail
            refine (HE.out _ B1.out).mono ?_
            rintro e w' ⟨rfl, rfl⟩
            go_wp2
            go_ret
            exact ⟨rfl, HB.out.trans (B1.out.mono HB.out.size)⟩
end Go.Proofs.Ybulkekfw
