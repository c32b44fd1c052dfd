import Derived.Test.YbulkejuoKeys
import Derived.Deep.DeepCutAuto
import Derived.RegionTactic
import Derived.BigRegion
namespace Go.Proofs.Ybulkejuo
open Go.RowKit

/-- What the world holds behind the filling: the two rows, whatever they hold; all older memory as it was. -/
def Filled (w : World) (S : Nat) (wr : World) : Prop := ∃ (t : Nat → Int) (k : Nat → Int × Int), wr.rowIs w.heap.size 5 S (fun j => .int .u8 (t j)) ∧ wr.rowIs (w.heap.size + 1) 29 (S * 40) (kcell k) ∧ Below w.heap.size w wr

theorem filled_none {w wr : World} {S : Nat} {t : Nat → Int} {k : Nat → Int × Int} (h : wr.rowIs w.heap.size 5 S (fun j => .int .u8 (t j)) ∧ wr.rowIs (w.heap.size + 1) 29 (S * 40) (kcell k) ∧ Below w.heap.size w wr)
    (i : Nat) (a b : Int) (o : Obj) : Filled w S ((((wr.setCell ⟨w.heap.size + 1, i * 40, none⟩ (.int .u8 a)).setCell ⟨w.heap.size + 1, i * 40 + 1, none⟩ (.int .u8 b)).alloc o).drew) := by
  obtain ⟨ht, hk, hb⟩ := h
  have hs := hk.lt
  refine ⟨t, fun j => if j = i then (a, b) else k j, ?_, ?_, ?_⟩
  · exact (((ht.setOther (a := ⟨w.heap.size + 1, i * 40, none⟩) (by simp) _).setOther (a := ⟨w.heap.size + 1, i * 40 + 1, none⟩) (by simp) _).alloc _).drew
  · exact ((row_key_set hk i a b).alloc _).drew
  · exact (((hb.setCell (by simp) _).setCell (by simp) _).alloc (by simp; omega) _).drew
theorem filled_tag {w wr : World} {S : Nat} {t : Nat → Int} {k : Nat → Int × Int} (h : wr.rowIs w.heap.size 5 S (fun j => .int .u8 (t j)) ∧ wr.rowIs (w.heap.size + 1) 29 (S * 40) (kcell k) ∧ Below w.heap.size w wr)
    (i : Nat) (v a b : Int) (o : Obj) : Filled w S (((((wr.setCell ⟨w.heap.size, i, none⟩ (.int .u8 v)).setCell ⟨w.heap.size + 1, i * 40, none⟩ (.int .u8 a)).setCell ⟨w.heap.size + 1, i * 40 + 1, none⟩ (.int .u8 b)).alloc o).drew) := by
  obtain ⟨ht, hk, hb⟩ := h
  refine filled_none (t := fun j => if j = i then v else t j) (k := k) ⟨(ht.set i _).congr (fun j _ => ?_), hk.setOther (a := ⟨w.heap.size, i, none⟩) (by simp) _, hb.setCell (Nat.le_refl _) _⟩ i a b o
  split <;> rfl

/-- What the world holds ahead of the clones: the two rows, an empty slot at p, the query's key in a block of its own. -/
def Prep (w : World) (S p bq : Nat) (q : Int × Int) (w3 : World) : Prop := ∃ (t : Nat → Int) (k : Nat → Int × Int), t p = 0 ∧ w3.rowIs w.heap.size 5 S (fun j => .int .u8 (t j)) ∧ w3.rowIs (w.heap.size + 1) 29 (S * 40) (kcell k) ∧
  w3.rangeAt bq 0 (kcs q) ∧ bq < w3.heap.size ∧ Below w.heap.size w w3
theorem prep_mk {w wc : World} {S : Nat} {t : Nat → Int} {k : Nat → Int × Int} (h : wc.rowIs w.heap.size 5 S (fun j => .int .u8 (t j)) ∧ wc.rowIs (w.heap.size + 1) 29 (S * 40) (kcell k) ∧ Below w.heap.size w wc)
    (p : Nat) (q : Int × Int) : Prep w S p wc.heap.size q ((wc.setCell ⟨w.heap.size, p, none⟩ (.int .u8 0)).alloc (.cells (kcs q).toArray 29)) := by
  obtain ⟨ht, hk, hb⟩ := h
  have hs := hk.lt
  refine ⟨fun j => if j = p then 0 else t j, k, if_pos rfl, ((ht.set p _).congr (fun j _ => ?_)).alloc _, (hk.setOther (a := ⟨w.heap.size, p, none⟩) (by simp) _).alloc _, ?_, by simp, ?_⟩
  · dsimp only; split <;> rfl
  · intro j v hv
    have hb : ((wc.setCell ⟨w.heap.size, p, none⟩ (.int .u8 0)).alloc (.cells (kcs q).toArray 29)).heap[wc.heap.size]? = some (.cells (kcs q).toArray 29 (0, 0)) := by
      have := heap_alloc_new (wc.setCell ⟨w.heap.size, p, none⟩ (.int .u8 0)) (.cells (kcs q).toArray 29)
      simpa using this
    rw [cell_of_row _ _ _ _ _ _ hb]
    simpa using hv
  · exact (hb.setCell (Nat.le_refl _) _).alloc (by simp; omega) _

/-- What the world holds behind the search. -/
structure Ready (w : World) (S gt gk bq bm : Nat) (t : Nat → Int) (k : Nat → Int × Int) (q : Int × Int) (w7 : World) : Prop where
  tags0 : ∀ j, j < S → w7.cell? ⟨gt, j, none⟩ = some (.int .u8 (t j))
  keys0 : ∀ j, j < S → w7.rangeAt gk (j * 40) (kcs (k j))
  qkey : w7.rangeAt bq 0 (kcs q)
  m2 : w7.cell? ⟨bm, 2, none⟩ = some (.slice (some ⟨w.heap.size, 0, none⟩) S S)
  m3 : w7.cell? ⟨bm, 3, none⟩ = some (.slice (some ⟨w.heap.size + 1, 0, none⟩) S S)
  tags : w7.rowIs w.heap.size 5 S (fun j => .int .u8 (t j))
  keys : w7.rowIs (w.heap.size + 1) 29 (S * 40) (kcell k)
  below : Below w.heap.size w w7
theorem range_drewN {w : World} {b o : Nat} {cs : List Value} (h : w.rangeAt b o cs) (n : Nat) : (w.drewN n).rangeAt b o cs := fun j v hv => by rw [World.cell?_drewN]; exact h j v hv
theorem below_drewN' {B : Nat} {a w : World} (h : Below B a w) (n : Nat) : Below B a (w.drewN n) := ⟨h.os, h.tape, h.output, h.size, h.block⟩
theorem Ready.drewN {w : World} {S gt gk bq bm : Nat} {t : Nat → Int} {k : Nat → Int × Int} {q : Int × Int} {w7 : World} (h : Ready w S gt gk bq bm t k q w7) (n : Nat) : Ready w S gt gk bq bm t k q (w7.drewN n) :=
  ⟨fun j hj => by rw [World.cell?_drewN]; exact h.tags0 j hj, fun j hj => range_drewN (h.keys0 j hj) n, range_drewN h.qkey n, by rw [World.cell?_drewN]; exact h.m2, by rw [World.cell?_drewN]; exact h.m3, h.tags.of_block rfl, h.keys.of_block rfl, below_drewN' h.below n⟩
theorem Ready.alloc {w : World} {S gt gk bq bm : Nat} {t : Nat → Int} {k : Nat → Int × Int} {q : Int × Int} {w7 : World} (h : Ready w S gt gk bq bm t k q w7) (o : Obj) : Ready w S gt gk bq bm t k q (w7.alloc o) :=
  ⟨fun j hj => Lib.cell?_alloc_some _ (h.tags0 j hj), fun j hj => World.rangeAt_alloc (h.keys0 j hj) _, World.rangeAt_alloc h.qkey _, Lib.cell?_alloc_some _ h.m2, Lib.cell?_alloc_some _ h.m3, h.tags.alloc _, h.keys.alloc _, h.below.alloc (Nat.le_of_lt h.tags.lt) _⟩

theorem ready_mk {w w5 : World} {S gt gk bq : Nat} {t : Nat → Int} {k : Nat → Int × Int} {q : Int × Int}
    (h : (∀ j, j < S → w5.cell? ⟨gt, j, none⟩ = some (.int .u8 (t j))) ∧ (∀ j, j < S → w5.rangeAt gk (j * 40) (kcs (k j))) ∧ w5.rangeAt bq 0 (kcs q) ∧ w5.rowIs w.heap.size 5 S (fun j => .int .u8 (t j)) ∧ w5.rowIs (w.heap.size + 1) 29 (S * 40) (kcell k) ∧ Below w.heap.size w w5) :
    Ready w S gt gk bq (w5.heap.size + 1) t k q ((w5.alloc (.cells (zanch S) 2)).alloc (.cells #[.int .i32 0, .int .u32 0, .slice (some ⟨w.heap.size, 0, none⟩) S S, .slice (some ⟨w.heap.size + 1, 0, none⟩) S S, .slice (some ⟨w5.heap.size, 0, none⟩) S S, .int .i64 0, .int .u64 0, .int .i64 0, .int .i64 0, .int .i64 0] 45)) := by
  obtain ⟨h1, h2, h3, h4, h5, h6⟩ := h
  have hs := h4.lt
  refine ⟨fun j hj => Lib.cell?_alloc_some _ (Lib.cell?_alloc_some _ (h1 j hj)), fun j hj => World.rangeAt_alloc (World.rangeAt_alloc (h2 j hj) _) _, World.rangeAt_alloc (World.rangeAt_alloc h3 _) _, ?_, ?_, (h4.alloc _).alloc _, (h5.alloc _).alloc _, (h6.alloc (by omega) _).alloc (by simp; omega) _⟩
  · rw [World.cell?_alloc_at _ _ _ _ (by simp)]; rfl
  · rw [World.cell?_alloc_at _ _ _ _ (by simp)]; rfl

/-- Is slot i empty? -/
def zf (t : Nat → Int) (i : Nat) : Bool := t i == 0
/-- Is slot i a match? -/
def mf (t : Nat → Int) (k : Nat → Int × Int) (tag : Int) (q : Int × Int) (i : Nat) : Bool := !(t i == 0) && (t i == tag && keq (k i) q)
theorem best_yes {S : Nat} {dist : Nat → Nat} {p : Nat → Bool} {j : Nat} (h : p j = true) (hl : dist j < best S dist p j) : best S dist p (j + 1) = dist j := by
  rw [best, if_pos ⟨h, hl⟩]
theorem best_far {S : Nat} {dist : Nat → Nat} {p : Nat → Bool} {j : Nat} (hl : ¬ dist j < best S dist p j) : best S dist p (j + 1) = best S dist p j := by
  rw [best, if_neg (fun h => hl h.2)]
theorem best_no {S : Nat} {dist : Nat → Nat} {p : Nat → Bool} {j : Nat} (h : p j = false) : best S dist p (j + 1) = best S dist p j := by
  rw [best, if_neg (fun h' => by rw [h] at h'; cases h'.1)]

theorem range_below {B : Nat} {w w' : World} (h : Below B w w') {b o : Nat} {cs : List Value} (hb : b < B) (hr : w.rangeAt b o cs) : w'.rangeAt b o cs := fun j v hv => by
  rw [h.cell (p := ⟨b, o + j, none⟩) hb]; exact hr j v hv

set_option maxHeartbeats 4000000 in
set_option maxRecDepth 100000 in
theorem law_walk (a : Int) (ao : Option Addr) (n cap S : Nat) (qv h : Int) (w : World) (h0 : 0 ≤ h) (h1 : h < 18446744073709551616) (ha0 : 0 ≤ a) (ha1 : a < 256) (hq0 : 0 ≤ qv) (hq1 : qv < 256) (hn : n ≤ 1048576)
    (hs : (2 : Int) ^ (a % 11).toNat = (S : Int)) (hS : Size S)
    (hcs : 0 < n → ∃ (cb co : Nat) (T K : Nat → Int), ao = some ⟨cb, co, none⟩ ∧ cb < w.heap.size ∧ ∀ j, j < n → w.cell? ⟨cb, co + j * 2, none⟩ = some (.int .u8 (T j)) ∧ w.cell? ⟨cb, co + j * 2 + 1, none⟩ = some (.int .u8 (K j)) ∧ 0 ≤ T j ∧ T j < 256 ∧ 0 ≤ K j ∧ K j < 256) :
    Calls Yba.prog 3 #[.int .u8 a, .slice ao n cap, .int .u8 qv, .int .u64 h] w fun e w' => e = .returned (.bool true) ∧ Below w.heap.size w w' := by
  have hS1 := hS.one
  have hS2 := hS.le
  have hmk24 := make24 S hS2
  have hmk25 := make25 S hS2
  have hmk34 := make34 S hS2
  have handI := hS.andI
  have handU := hS.andU
  have HC : Hid (0 < n → ∃ (cb co : Nat) (T K : Nat → Int), ao = some ⟨cb, co, none⟩ ∧ cb < w.heap.size ∧ ∀ j, j < n → w.cell? ⟨cb, co + j * 2, none⟩ = some (.int .u8 (T j)) ∧ w.cell? ⟨cb, co + j * 2 + 1, none⟩ = some (.int .u8 (K j)) ∧ 0 ≤ T j ∧ T j < 256 ∧ 0 ≤ K j ∧ K j < 256) := hcs
  clear hcs
  go_enter Yba.func3, Yba.ntmps3
  go_upto_if 48 with fail
  go_cut [12, 13] (fun s12 s13 wc => s12 = .slice (some ⟨w.heap.size, 0, none⟩) S S ∧ s13 = .slice (some ⟨w.heap.size + 1, 0, none⟩) S S ∧ Filled w S wc)
  case first =>
    have F0 : Hid (Filled w S ((w.alloc (.cells (ztags S) 5)).alloc (.cells (zkeys S) 29))) := by
      have r2 := row_zkeys (w.alloc (.cells (ztags S) 5)) S
      rw [World.size_alloc] at r2
      exact ⟨fun _ => 0, fun _ => (0, 0), (row_ztags w S).alloc _, r2, ((Below.refl _ w).alloc (Nat.le_refl _) _).alloc (by simp) _⟩
    by_cases hn0 : n = 0
    · subst hn0
      go_wp2
      go_meet
      case rel => exact ⟨rfl, rfl, F0.out⟩
    · obtain ⟨cb, co, T, K, rfl, hcb, hc⟩ := HC.out (by omega)
      go_wp2_with fail
      go_loopg [14] S (fun g s14 wr => ∃ i : Nat, i ≤ S ∧ S - i ≤ g ∧ s14 = .int .i64 i ∧ Filled w S wr)
      case atStart => exact ⟨0, Nat.zero_le _, by omega, rfl, F0.out⟩
      case round =>
        obtain ⟨i, hi, hg, rfl, t, k, ht, hk, hb⟩ := hrel
        by_cases hlt : i < S
        · have hjn : i % n < n := Nat.mod_lt _ (by omega)
          obtain ⟨g0, g1, x0, x1, y0, y1⟩ := hc (i % n) hjn
          have HC2 : Hid (∀ j, j < n → w.cell? ⟨cb, co + j * 2, none⟩ = some (.int .u8 (T j)) ∧ w.cell? ⟨cb, co + j * 2 + 1, none⟩ = some (.int .u8 (K j)) ∧ 0 ≤ T j ∧ T j < 256 ∧ 0 ≤ K j ∧ K j < 256) := hc
          clear hc
          rw [← hb.cell (p := ⟨cb, co + i % n * 2, none⟩) hcb] at g0
          rw [← hb.cell (p := ⟨cb, co + i % n * 2 + 1, none⟩) hcb] at g1
          generalize T (i % n) = x at g0 x0 x1
          generalize K (i % n) = y at g1 y0 y1
          have hsz : w.heap.size + 1 < wr.heap.size := hk.lt
          have hsz0 : w.heap.size < wr.heap.size := ht.lt
          have cT := ht.cell hlt
          have fT := ht.frozen i
          have cK0 := hk.cell (show i * 40 < S * 40 by omega)
          have fK0 := hk.frozen (i * 40)
          have cK1 := hk.cell (show i * 40 + 1 < S * 40 by omega)
          have fK1 := hk.frozen (i * 40 + 1)
          have HF : Hid (wr.rowIs w.heap.size 5 S (fun j => .int .u8 (t j)) ∧ wr.rowIs (w.heap.size + 1) 29 (S * 40) (kcell k) ∧ Below w.heap.size w wr) := ⟨ht, hk, hb⟩
          clear ht hk hb
          by_cases e1 : x % 4 = 1
          · go_wp2_with fail
            go_region
            go_wp2
            go_roundg (S - (i + 1))
            case measure => omega
            case rel => exact ⟨i + 1, by omega, by omega, by go_num, filled_tag HF.out _ _ _ _ _⟩
          by_cases e3 : x % 4 = 3
          · go_wp2_with fail
            go_region
            go_wp2
            go_roundg (S - (i + 1))
            case measure => omega
            case rel => exact ⟨i + 1, by omega, by omega, by go_num, filled_tag HF.out _ _ _ _ _⟩
          by_cases e2 : x % 4 = 2
          · go_wp2_with fail
            go_region
            go_wp2
            go_roundg (S - (i + 1))
            case measure => omega
            case rel => exact ⟨i + 1, by omega, by omega, by go_num, filled_tag HF.out _ _ _ _ _⟩
          · go_wp2_with fail
            go_region
            go_wp2
            go_roundg (S - (i + 1))
            case measure => omega
            case rel => exact ⟨i + 1, by omega, by omega, by go_num, filled_none HF.out _ _ _ _⟩
        · go_wp2
          go_meet
          case rel => exact ⟨rfl, rfl, t, k, ht, hk, hb⟩
  case rest =>
    obtain ⟨rfl, rfl, t0, k, ht0, hk, hb⟩ := hcut
    obtain ⟨p, hp⟩ : ∃ p : Nat, h / 131072 % (S : Int) = (p : Int) := ⟨(h / 131072 % (S : Int)).toNat, by have := Int.emod_nonneg (h / 131072) (show (S : Int) ≠ 0 by omega); omega⟩
    have hpS : p < S := by have := Int.emod_lt_of_pos (h / 131072) (show (0 : Int) < (S : Int) by omega); omega
    have cp := ht0.cell hpS
    have fp := ht0.frozen p
    have hsz0 : w.heap.size < wc.heap.size := ht0.lt
    have hsz1 : w.heap.size + 1 < wc.heap.size := hk.lt
    have HF : Hid (wc.rowIs w.heap.size 5 S (fun j => .int .u8 (t0 j)) ∧ wc.rowIs (w.heap.size + 1) 29 (S * 40) (kcell k) ∧ Below w.heap.size w wc) := ⟨ht0, hk, hb⟩
    clear ht0 hk hb
    go_upto_region 24 with fail
    go_cut [16] (fun s16 w3 => ∃ bq, s16 = .pointer (some ⟨bq, 0, none⟩) ∧ Prep w S p bq (1, qv % 3) w3)
    case first =>
      go_wp2_with fail
      go_meet
      case rel => exact ⟨_, rfl, prep_mk HF.out p (1, qv % 3)⟩
    case rest =>
      clear cp fp hsz0 hsz1 HF HC
      obtain ⟨bq, rfl, t, k', htp, ht, hk, hq, hbq, hb⟩ := hcut
      have TP : Hid (t p = 0) := htp
      clear htp
      go_wp2_with fail
      refine (clone_tags _ S t _ hS2 ht).mono ?_
      rintro e w4 ⟨gt, ct, rfl, hgt, hgt', hct, hb4⟩
      have ht4 := ht.of_block (hb4.block _ ht.lt)
      have hk4 := hk.of_block (hb4.block _ hk.lt)
      have hq4 := range_below hb4 hbq hq
      have hbB4 : Below w.heap.size w w4 := hb.trans (hb4.mono (by have := ht.lt; omega))
      have hz4 : wc.heap.size ≤ w4.heap.size := hb4.size
      have CT : Hid (∀ j, j < S → w4.cell? ⟨gt, j, none⟩ = some (.int .u8 (t j))) := hct
      clear hct
      go_wp2_with fail
      refine (clone_keys _ S k' _ hS2 hk4).mono ?_
      rintro e w5 ⟨gk, ck, rfl, hgk, hgk', hck, hb5⟩
      have ht5 := ht4.of_block (hb5.block _ ht4.lt)
      have hk5 := hk4.of_block (hb5.block _ hk4.lt)
      have hq5 := range_below hb5 (by omega) hq4
      have hbB5 : Below w.heap.size w w5 := hbB4.trans (hb5.mono (by have := ht4.lt; omega))
      have hct5 : ∀ j, j < S → w5.cell? ⟨gt, j, none⟩ = some (.int .u8 (t j)) := fun j hj => by rw [hb5.cell (p := ⟨gt, j, none⟩) hgt']; exact CT.out j hj
      have W5 : Hid ((∀ j, j < S → w5.cell? ⟨gt, j, none⟩ = some (.int .u8 (t j))) ∧ (∀ j, j < S → w5.rangeAt gk (j * 40) (kcs (k' j))) ∧ w5.rangeAt bq 0 (kcs (1, qv % 3)) ∧ w5.rowIs w.heap.size 5 S (fun j => .int .u8 (t j)) ∧ w5.rowIs (w.heap.size + 1) 29 (S * 40) (kcell k') ∧ Below w.heap.size w w5) := ⟨hct5, hck, hq5, ht5, hk5, hbB5⟩
      clear hct5 hck hq5 ht5 hk5 hbB5 CT hbB4 hq4 hk4 ht4 hb4 hb5 ht hk hq hb hgt hgt' hgk hgk' hz4 hbq
      go_upto_region 28 with fail
      have R6 := ready_mk W5.out
      clear W5
      obtain ⟨st, hst⟩ : ∃ st : Nat, h % (S : Int) = (st : Int) := ⟨(h % (S : Int)).toNat, by have := Int.emod_nonneg h (show (S : Int) ≠ 0 by omega); omega⟩
      have hstS : st < S := by have := Int.emod_lt_of_pos h (show (0 : Int) < (S : Int) by omega); omega
      have hu := Yba.underlying29
      have hql : (Yba.prog.info? 29).map (·.size) = some (kcs (1, qv % 3)).length := by rw [size29, kcs_length]
      go_cut [20, 21] (fun s20 s21 w7 => ∃ d, d < S ∧ (∀ d', d' < d → stops t k' (tagH h) (1, qv % 3) ((st + d') % S) = false) ∧ stops t k' (tagH h) (1, qv % 3) ((st + d) % S) = true ∧ s20 = .int .i64 (((st + d) % S : Nat) : Int) ∧ s21 = .bool (!(t ((st + d) % S) == 0)) ∧ Ready w S gt gk bq (w5.heap.size + 1) t k' (1, qv % 3) w7)
      case first =>
        have HR : Hid _ := R6
        clear R6
        go_wp2_with (refine wpList_load_mid rfl 29 _ rfl _ _ rfl _ _ HR.out.qkey hu rfl hql ?_)
        refine (slot_any (w5.heap.size + 1) w.heap.size (w.heap.size + 1) S st t k' (1, qv % 3) h _ h0 h1 hS1 hS2 handI (by rw [hS.wrap]; exact hst) HR.out.m2 HR.out.m3 (fun j hj => HR.out.tags.cell hj) (fun j hj => range_of_row HR.out.keys j hj) (dst S st p) (dst_lt S st p hS1) (by rw [at_dst S st p hstS hpS]; exact TP.out)).mono ?_
        rintro e w7 ⟨d, n7, hd, hno, hstop, rfl, rfl⟩
        have DN : Hid (d < S ∧ (∀ d', d' < d → stops t k' (tagH h) (1, qv % 3) ((st + d') % S) = false) ∧ stops t k' (tagH h) (1, qv % 3) ((st + d) % S) = true) := ⟨hd, hno, hstop⟩
        clear hd hno hstop
        go_wp2_with fail
        go_meet
        case rel => exact ⟨d, DN.out.1, DN.out.2.1, DN.out.2.2, rfl, rfl, (HR.out.alloc _).drewN n7⟩
      case rest =>
        obtain ⟨d, hd, hno, hstop, rfl, rfl, R7⟩ := hcut
        have DN : Hid (d < S ∧ (∀ d', d' < d → stops t k' (tagH h) (1, qv % 3) ((st + d') % S) = false) ∧ stops t k' (tagH h) (1, qv % 3) ((st + d) % S) = true) := ⟨hd, hno, hstop⟩
        clear hd hno hstop R6
        have HR : Hid _ := R7
        clear R7
        go_wp2_with fail
        go_loopg [23, 24, 25] S (fun g s23 s24 s25 wr => ∃ j n : Nat, j ≤ S ∧ S - j ≤ g ∧ s25 = .int .i64 j ∧ s23 = .int .i64 (best S (dst S st) (zf t) j : Nat) ∧ s24 = .int .i64 (best S (dst S st) (mf t k' (tagH h) (1, qv % 3)) j : Nat) ∧ wr = wc.drewN n)
        case atStart => exact ⟨0, 0, Nat.zero_le _, by omega, rfl, rfl, rfl, rfl⟩
        case round =>
          obtain ⟨j, n, hj, hg, rfl, rfl, rfl, rfl⟩ := hrel
          have hz := best_le S (dst S st) (zf t) j
          have hm := best_le S (dst S st) (mf t k' (tagH h) (1, qv % 3)) j
          by_cases hlt : j < S
          · have c1 := HR.out.tags0 j hlt
            have c2 := range_drewN (HR.out.keys0 j hlt) n
            have cq := range_drewN HR.out.qkey n
            have hdj := dst_int S st j hstS
            have hdl := dst_lt S st j hS1
            have hil : (Yba.prog.info? 29).map (·.size) = some (kcs (k' j)).length := by rw [size29, kcs_length]
            have he := eqlK
            have hgd := guardK
            have Y : Hid ((zf t j = true → dst S st j < best S (dst S st) (zf t) j → best S (dst S st) (zf t) (j + 1) = dst S st j) ∧ (¬ dst S st j < best S (dst S st) (zf t) j → best S (dst S st) (zf t) (j + 1) = best S (dst S st) (zf t) j) ∧ (zf t j = false → best S (dst S st) (zf t) (j + 1) = best S (dst S st) (zf t) j)) := ⟨best_yes, best_far, best_no⟩
            have Z : Hid ((mf t k' (tagH h) (1, qv % 3) j = true → dst S st j < best S (dst S st) (mf t k' (tagH h) (1, qv % 3)) j → best S (dst S st) (mf t k' (tagH h) (1, qv % 3)) (j + 1) = dst S st j) ∧ (¬ dst S st j < best S (dst S st) (mf t k' (tagH h) (1, qv % 3)) j → best S (dst S st) (mf t k' (tagH h) (1, qv % 3)) (j + 1) = best S (dst S st) (mf t k' (tagH h) (1, qv % 3)) j) ∧ (mf t k' (tagH h) (1, qv % 3) j = false → best S (dst S st) (mf t k' (tagH h) (1, qv % 3)) (j + 1) = best S (dst S st) (mf t k' (tagH h) (1, qv % 3)) j)) := ⟨best_yes, best_far, best_no⟩
            have EZ : Hid (zf t j = (t j == 0)) := rfl
            have EM : Hid (mf t k' (tagH h) (1, qv % 3) j = (!(t j == 0) && (t j == 128 + h / 144115188075855872 && keq (k' j) (1, qv % 3)))) := rfl
            generalize best S (dst S st) (zf t) j = bz at Y hz ⊢
            generalize best S (dst S st) (mf t k' (tagH h) (1, qv % 3)) j = bm at Z hm ⊢
            generalize dst S st j = D at Y Z hdj hdl
            generalize zf t j = zj at Y EZ
            generalize mf t k' (tagH h) (1, qv % 3) j = mj at Z EM
            generalize t j = x at c1 EZ EM
            generalize k' j = y at c2 hil EM
            by_cases hx : x = 0
            · subst hx
              have e1 : zj = true := by rw [EZ.out]; rfl
              have e2 : mj = false := by rw [EM.out]; rfl
              by_cases hDz : D < bz
              · go_wp2
                go_roundg (S - (j + 1))
                case measure => omega
                case rel => exact ⟨j + 1, n, by omega, by omega, by go_num, by rw [Y.out.1 e1 hDz], by rw [Z.out.2.2 e2], by first | rfl | rw [World.drewN_drewN]⟩
              · go_wp2
                go_roundg (S - (j + 1))
                case measure => omega
                case rel => exact ⟨j + 1, n, by omega, by omega, by go_num, by rw [Y.out.2.1 hDz], by rw [Z.out.2.2 e2], by first | rfl | rw [World.drewN_drewN]⟩
            have hx' : (x == 0) = false := by simpa using hx
            have e1 : zj = false := by rw [EZ.out]; exact hx'
            by_cases hxt : x = 128 + h / 144115188075855872
            · subst hxt
              cases hyq : keq y (1, qv % 3) with
              | true =>
                have e2 : mj = true := by rw [EM.out, hx', hyq]; simp
                by_cases hDm : D < bm
                · go_wp2_with fail
                  refine wp_region_quiet_lit (by kernel_rfl) (by kernel_rfl) ?_
                  repeat (first | (go_big_quiet_want; (first | refine quiet_load_mid 29 _ rfl _ _ rfl _ _ c2 hu rfl hil ?_ | refine quiet_load_mid 29 _ rfl _ _ rfl _ _ cq hu rfl hql ?_); (simp only [Act.put, List.setIfInBounds_toArray, List.set_cons_zero, List.set_cons_succ]); go_big_quiet_on) | go_big_quiet_step (fail))
                  refine wpQuiet_nil ?_
                  rintro _ ⟨nq, rfl⟩
                  go_wp2
                  go_roundg (S - (j + 1))
                  case measure => omega
                  case rel => exact ⟨j + 1, n + nq, by omega, by omega, by go_num, by rw [Y.out.2.2 e1], by rw [Z.out.1 e2 hDm], by first | rfl | rw [World.drewN_drewN]⟩
                · go_wp2_with fail
                  refine wp_region_quiet_lit (by kernel_rfl) (by kernel_rfl) ?_
                  repeat (first | (go_big_quiet_want; (first | refine quiet_load_mid 29 _ rfl _ _ rfl _ _ c2 hu rfl hil ?_ | refine quiet_load_mid 29 _ rfl _ _ rfl _ _ cq hu rfl hql ?_); (simp only [Act.put, List.setIfInBounds_toArray, List.set_cons_zero, List.set_cons_succ]); go_big_quiet_on) | go_big_quiet_step (fail))
                  refine wpQuiet_nil ?_
                  rintro _ ⟨nq, rfl⟩
                  go_wp2
                  go_roundg (S - (j + 1))
                  case measure => omega
                  case rel => exact ⟨j + 1, n + nq, by omega, by omega, by go_num, by rw [Y.out.2.2 e1], by rw [Z.out.2.1 hDm], by first | rfl | rw [World.drewN_drewN]⟩
              | false =>
                have e2 : mj = false := by rw [EM.out, hx', hyq]; simp
                go_wp2_with fail
                refine wp_region_quiet_lit (by kernel_rfl) (by kernel_rfl) ?_
                repeat (first | (go_big_quiet_want; (first | refine quiet_load_mid 29 _ rfl _ _ rfl _ _ c2 hu rfl hil ?_ | refine quiet_load_mid 29 _ rfl _ _ rfl _ _ cq hu rfl hql ?_); (simp only [Act.put, List.setIfInBounds_toArray, List.set_cons_zero, List.set_cons_succ]); go_big_quiet_on) | go_big_quiet_step (fail))
                refine wpQuiet_nil ?_
                rintro _ ⟨nq, rfl⟩
                go_wp2
                go_roundg (S - (j + 1))
                case measure => omega
                case rel => exact ⟨j + 1, n + nq, by omega, by omega, by go_num, by rw [Y.out.2.2 e1], by rw [Z.out.2.2 e2], by first | rfl | rw [World.drewN_drewN]⟩
            · have hxt' : (x == 128 + h / 144115188075855872) = false := by simpa using hxt
              have e2 : mj = false := by rw [EM.out, hxt']; simp
              go_wp2_with fail
              refine wp_region_quiet_lit (by kernel_rfl) (by kernel_rfl) ?_
              repeat (first | (go_big_quiet_want; (first | refine quiet_load_mid 29 _ rfl _ _ rfl _ _ c2 hu rfl hil ?_ | refine quiet_load_mid 29 _ rfl _ _ rfl _ _ cq hu rfl hql ?_); (simp only [Act.put, List.setIfInBounds_toArray, List.set_cons_zero, List.set_cons_succ]); go_big_quiet_on) | go_big_quiet_step (fail))
              refine wpQuiet_nil ?_
              rintro _ ⟨nq, rfl⟩
              go_wp2
              go_roundg (S - (j + 1))
              case measure => omega
              case rel => exact ⟨j + 1, n + nq, by omega, by omega, by go_num, by rw [Y.out.2.2 e1], by rw [Z.out.2.2 e2], by first | rfl | rw [World.drewN_drewN]⟩
          · have : j = S := by omega
            subst this
            have m2 := HR.out.m2
            have m3 := HR.out.m3
            have FS := first_stop j st d (zf t) (mf t k' (tagH h) (1, qv % 3)) hstS DN.out.1 (fun d' hd' => by
              have := DN.out.2.1 d' hd'
              unfold stops at this
              unfold zf mf
              simp at this ⊢
              exact ⟨this.1, fun _ => this.2⟩) (by
              have := DN.out.2.2
              unfold stops at this
              unfold zf mf
              cases hh : (t ((st + d) % j) == 0)
              · rw [hh] at this; right; simpa using this
              · left; rfl)
            have hI : ((st : Int) + (d : Int)) % (j : Int) = (((st + d) % j : Nat) : Int) := by rw [Int.natCast_emod]; rfl
            have ZR : Hid (zf t ((st + d) % j) = (t ((st + d) % j) == 0)) := rfl
            have hdS : d < j := DN.out.1
            clear hlt
            generalize best j (dst j st) (zf t) j = bz at FS hz ⊢
            generalize best j (dst j st) (mf t k' (tagH h) (1, qv % 3)) j = bm at FS hm ⊢
            generalize (st + d) % j = r at FS hI ZR DN ⊢
            cases hr : (t r == 0) with
            | true =>
              obtain ⟨hbz, hlt⟩ := FS.1 (by rw [ZR.out]; exact hr)
              subst hbz
              clear FS
              go_wp2_with fail
              refine (equalB_same w.heap.size 0 gt 0 j j ct t (wc.drewN n) hS2 (fun i hi => by rw [Nat.zero_add, World.cell?_drewN]; exact HR.out.tags.cell hi) (fun i hi => by rw [Nat.zero_add, World.cell?_drewN]; exact HR.out.tags0 i hi)).mono ?_
              rintro e w8 ⟨rfl, q8, rfl⟩
              go_wp2_with fail
              refine (equalK_same (w.heap.size + 1) 0 _ 0 j j ck k' _ hS2 ?_ ?_).mono ?_
              · intro i hi; rw [Nat.zero_add]; exact range_drewN (range_of_row HR.out.keys i hi) _
              · intro i hi; rw [Nat.zero_add]; exact range_drewN (HR.out.keys0 i hi) _
              rintro e w9 ⟨rfl, q9, rfl⟩
              go_wp2
              go_ret
              refine ⟨rfl, ?_⟩
              first | exact below_drewN' HR.out.below _ | exact below_drewN' (below_drewN' HR.out.below _) _ | exact below_drewN' (below_drewN' (below_drewN' HR.out.below _) _) _
            | false =>
              obtain ⟨hbz, hlt⟩ := FS.2 (by rw [ZR.out]; exact hr)
              subst hbz
              clear FS
              go_wp2_with fail
              refine (equalB_same w.heap.size 0 gt 0 j j ct t (wc.drewN n) hS2 (fun i hi => by rw [Nat.zero_add, World.cell?_drewN]; exact HR.out.tags.cell hi) (fun i hi => by rw [Nat.zero_add, World.cell?_drewN]; exact HR.out.tags0 i hi)).mono ?_
              rintro e w8 ⟨rfl, q8, rfl⟩
              go_wp2_with fail
              refine (equalK_same (w.heap.size + 1) 0 _ 0 j j ck k' _ hS2 ?_ ?_).mono ?_
              · intro i hi; rw [Nat.zero_add]; exact range_drewN (range_of_row HR.out.keys i hi) _
              · intro i hi; rw [Nat.zero_add]; exact range_drewN (HR.out.keys0 i hi) _
              rintro e w9 ⟨rfl, q9, rfl⟩
              go_wp2
              go_ret
              refine ⟨rfl, ?_⟩
              first | exact below_drewN' HR.out.below _ | exact below_drewN' (below_drewN' HR.out.below _) _ | exact below_drewN' (below_drewN' (below_drewN' HR.out.below _) _) _
end Go.Proofs.Ybulkejuo
