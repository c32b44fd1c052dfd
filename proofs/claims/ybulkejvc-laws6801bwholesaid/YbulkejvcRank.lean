import Derived.Test.YbulkejvcClone
import Derived.Test.YbulkejvcPlain
import Derived.Sort.MapsRangeIn
import Derived.Deep.RegionHeld3
import Derived.Deep.AppendLies
namespace Go.Proofs.Ybulkejvc
open Go.RowKit

theorem law9 : Maps.Keyed Yba.prog 9 := Maps.string_keyed Yba.underlying9
theorem zero3 (w : World) : (zeroValue 3).run Yba.prog w = .ok (.int .i64 0) w := by kernel_rfl
theorem zero30 (w : World) : (zeroValue 30).run Yba.prog w = .ok (.slice none 0 0) w := by kernel_rfl

/-! ### The counts -/
abbrev ci (n : Nat) : DataW Unit := .lit (.int .i64 (n : Int))
def I1 (T : Nat → ByteArray) (k : Nat) (D : DataW Unit) : Prop :=
  (∀ x, Maps.has D (kl x) = decide (0 < cnt T x k)) ∧ (∀ x, D.atKey (kl x) (.lit (.int .i64 0)) = ci (cnt T x k)) ∧ Maps.size D = dn T k
theorem I1_zero (T : Nat → ByteArray) : I1 T 0 (.map []) := ⟨fun _ => rfl, fun _ => rfl, rfl⟩
theorem I1_step {T : Nat → ByteArray} {k : Nat} {D : DataW Unit} (h : I1 T k D) (ht : Maps.Tidy D) : I1 T (k + 1) (D.put (kl (T k)) (ci (cnt T (T k) k + 1))) := by
  refine ⟨fun x => ?_, fun x => ?_, ?_⟩
  · by_cases e : T k = x
    · subst e
      rw [Maps.has_put_same ht.isMap (kl_key _), cnt_yes rfl]
      simp
    · rw [Maps.has_put_other (kl_ne (fun h => e h.symm)), h.1, cnt_no e]
  · by_cases e : T k = x
    · subst e
      rw [Maps.atKey_put_same ht.isMap (kl_key _), cnt_yes rfl]
    · rw [Maps.atKey_put_other (kl_ne (fun h => e h.symm)), h.2.1, cnt_no e]
  · rw [Maps.size_put ht, h.1, h.2.2, dn]
    by_cases e : cnt T (T k) k = 0
    · simp [e]
    · simp [e, Nat.pos_of_ne_zero e]

/-! ### The groups -/
def zrank (c : Nat) : Array Value := madeCells #[.int .i64 0, .slice none 0 0] (c * 2)
theorem info33 : (Yba.prog.info? 33).map (fun i => (i.zero, i.size, i.bytes)) = some (some (.agg #[.int .i64 0, .slice none 0 0]), 2, 32) := by kernel_rfl
theorem make30 (c : Nat) (hc : c ≤ 4096) (w : World) : (Instr.makeSlice 30 (.int .i64 0) (.int .i64 (c : Int))).run Yba.prog w = .ok (.slice (some ⟨w.heap.size, 0, none⟩) 0 c) (w.alloc (.cells (zrank c) 33)) := by
  obtain ⟨i, hi, hz, hs, hb⟩ := info_parts info33
  have hr := run_make (P := Yba.prog) w 30 33 i _ Yba.underlying30 hi hz .i64 .i64 0 (c : Int) (Int.le_refl _) (by omega) (by rw [hb]; omega) (by omega)
  rw [hs] at hr
  exact hr

/-- Each key of dom leads to a slice of the call's own, at the head of a block from 'base' on, of as many elements as the type stands; no two in one block. -/
structure Groups (n : Nat) (T : Nat → ByteArray) (base : Nat) (len : ByteArray → Nat) (dom : ByteArray → Prop) (D : DataW Unit) (G : ByteArray → Nat) (wr : World) : Prop where
  at_ : ∀ x, dom x → ∀ z, D.atKey (kl x) z = sl (G x) (len x) (cnt T x n)
  lo : ∀ x, dom x → base ≤ G x
  blk : ∀ x, dom x → ∃ cur, wr.heap[G x]? = some (.cells cur 33 (0, 0)) ∧ cur.size = cnt T x n * 2
  inj : ∀ x y, dom x → dom y → G x = G y → x = y

/-- The second loop's relation. -/
def Rel2 (w : World) (n : Nat) (T : Nat → ByteArray) (D1 : DataW Unit) (bm r g : Nat) (wr : World) : Prop :=
  ∃ (left : Lit → Bool) (c N : Nat) (D : DataW Unit) (G : ByteArray → Nat), c ≤ g ∧ N + c ≤ 4096 ∧ wr.ranges Yba.prog 9 (plainElem Yba.prog 3) w.heap.size r n D1 left c ∧ wr.ownsMap Yba.prog 9 R3 bm N D ∧
    (∀ kk, Maps.has D kk = (Maps.has D1 kk && !left kk)) ∧ Groups n T (r + 1) (fun _ => 0) (fun x => Maps.has D (kl x) = true) D G wr ∧ Below w.heap.size w wr

theorem rel2_step {w wr w1 w3 : World} {n : Nat} {T : Nat → ByteArray} {D1 D : DataW Unit} {bm r N c1 : Nat} {left : Lit → Bool} {G : ByteArray → Nat} {x : ByteArray} {g : Nat}
    (hbm : w.heap.size < bm) (hr : r = bm + 1)
    (hhas : ∀ kk, Maps.has D kk = (Maps.has D1 kk && !left kk)) (hG : Groups n T (r + 1) (fun _ => 0) (fun x => Maps.has D (kl x) = true) D G wr) (hb : Below w.heap.size w wr)
    (hisM : Maps.IsMap D) (hx1 : Maps.has D1 (kl x) = true)
    (hrg : w1.ranges Yba.prog 9 (plainElem Yba.prog 3) w.heap.size r n D1 (fun z => left z && !z.sameKey (kl x)) c1) (hg1 : wr.grownBy w1 (some r)) (hs1 : w1.heap.size = wr.heap.size)
    (hown : w3.ownsMap Yba.prog 9 R3 bm (N + 1) (D.put (kl x) (sl w1.heap.size 0 (cnt T x n)))) (hg3 : (w1.alloc (.cells (zrank (cnt T x n)) 33)).grownBy w3 (some bm)) (hc : c1 ≤ g) (hN : N + 1 + c1 ≤ 4096) :
    Rel2 w n T D1 bm r g w3 := by
  have hrlt : r < w1.heap.size := hrg.lt
  have hz : w1.heap.size < w3.heap.size := by have := hg3.size; simp at this; omega
  refine ⟨_, c1, N + 1, _, fun y => if y = x then w1.heap.size else G y, hc, hN, (hrg.alloc _).kept hg3 (by simp; omega) (by simp; omega), hown, fun kk => ?_, ⟨?_, ?_, ?_, ?_⟩, ?_⟩
  · by_cases e : kk = kl x
    · subst e
      rw [Maps.has_put_same hisM (kl_key _), hx1, WideAt.sameKey_self (kl_key x)]
      simp
    · rw [Maps.has_put_other e, Maps.sameKey_ne e, hhas]
      simp
  · intro y hy z
    by_cases e : y = x
    · subst e
      rw [Maps.atKey_put_same hisM (kl_key _), if_pos rfl]
    · rw [Maps.atKey_put_other (kl_ne e), if_neg e]
      exact hG.at_ y (by simpa [Maps.has_put_other (kl_ne e)] using hy) z
  · intro y hy
    by_cases e : y = x
    · rw [if_pos e]; omega
    · rw [if_neg e]
      exact hG.lo y (by simpa [Maps.has_put_other (kl_ne e)] using hy)
  · intro y hy
    by_cases e : y = x
    · subst e
      refine ⟨zrank (cnt T y n), ?_, by simp [zrank, size_madeCells]⟩
      rw [if_pos rfl, hg3.block _ (by simp) (by simp; omega)]
      exact heap_alloc_new _ _
    · have hy' : Maps.has D (kl y) = true := by simpa [Maps.has_put_other (kl_ne e)] using hy
      obtain ⟨cur, h1, h2⟩ := hG.blk y hy'
      have hlo := hG.lo y hy'
      have hlt : G y < wr.heap.size := (Array.getElem?_eq_some_iff.1 h1).1
      refine ⟨cur, ?_, h2⟩
      rw [if_neg e, hg3.block _ (by simp; omega) (by simp; omega), Below.heap_alloc _ _ _ (by omega), hg1.block _ hlt (by simp; omega), h1]
  · intro y y' hy hy' he
    have hG' : ∀ v, Maps.has (D.put (kl x) (sl w1.heap.size 0 (cnt T x n))) (kl v) = true → ¬ v = x → Maps.has D (kl v) = true ∧ G v < wr.heap.size := fun v hv e => by
      have hv' : Maps.has D (kl v) = true := by simpa [Maps.has_put_other (kl_ne e)] using hv
      obtain ⟨cur, h1, _⟩ := hG.blk v hv'
      exact ⟨hv', (Array.getElem?_eq_some_iff.1 h1).1⟩
    by_cases e : y = x <;> by_cases e' : y' = x
    · rw [e, e']
    · simp only [if_pos e, if_neg e'] at he
      have := (hG' y' hy' e').2
      omega
    · simp only [if_neg e, if_pos e'] at he
      have := (hG' y hy e).2
      omega
    · simp only [if_neg e, if_neg e'] at he
      exact hG.inj y y' (hG' y hy e).1 (hG' y' hy' e').1 he
  · have hb1 : Below w.heap.size w w1 := hb.grown hg1 hb.size (fun j hj => by cases hj; omega)
    exact (hb1.alloc hb1.size _).grown hg3 (by simp; exact Nat.le_succ_of_le hb1.size) (fun j hj => by cases hj; omega)

/-- The third loop's relation. -/
def Rel3 (w : World) (n : Nat) (T : Nat → ByteArray) (A : Nat → Option Addr) (L C : Nat → Nat) (bm k : Nat) (wr : World) : Prop :=
  ∃ (N : Nat) (D : DataW Unit) (G : ByteArray → Nat), N ≤ 4096 + k ∧ wr.ownsMap Yba.prog 9 R3 bm N D ∧ (∀ x, Maps.has D (kl x) = decide (0 < cnt T x n)) ∧ Maps.size D = dn T n ∧
    Groups n T (bm + 1) (fun x => cnt T x k) (fun x => 0 < cnt T x n) D G wr ∧
    (∀ i, i < k → wr.cell? ⟨G (T i), cnt T (T i) i * 2, none⟩ = some (.int .i64 (i : Int)) ∧ wr.cell? ⟨G (T i), cnt T (T i) i * 2 + 1, none⟩ = some (.slice (A i) (L i) (C i))) ∧ Below w.heap.size w wr
theorem rel3_start {w wr : World} {n : Nat} {T : Nat → ByteArray} {A : Nat → Option Addr} {L C : Nat → Nat} {D1 : DataW Unit} {bm g : Nat} (hI : I1 T n D1)
    {left : Lit → Bool} {c N : Nat} {D : DataW Unit} {G : ByteArray → Nat} (hN : N + c ≤ 4096) (hrg : wr.ranges Yba.prog 9 (plainElem Yba.prog 3) w.heap.size g n D1 left c) (hout : wr.ownsMap Yba.prog 9 R3 bm N D)
    (hhas : ∀ kk, Maps.has D kk = (Maps.has D1 kk && !left kk)) (hG : Groups n T (bm + 1 + 1) (fun _ => 0) (fun x => Maps.has D (kl x) = true) D G wr) (hb : Below w.heap.size w wr) (hl : ∀ kk, left kk = false) :
    Rel3 w n T A L C bm 0 wr := by
  have hsame : ∀ kk, Maps.has D kk = Maps.has D1 kk := fun kk => by rw [hhas, hl]; simp
  have hdom : ∀ x, 0 < cnt T x n → Maps.has D (kl x) = true := fun x hx => by rw [hsame, hI.1]; simpa using hx
  refine ⟨N, D, G, by omega, hout, fun x => by rw [hsame, hI.1], by rw [← hI.2.2]; exact same_size (hout.canon law9) (hrg.owns.canon law9) hsame, ⟨fun x hx => hG.at_ x (hdom x hx), fun x hx => ?_, fun x hx => hG.blk x (hdom x hx), fun x y hx hy => hG.inj x y (hdom x hx) (hdom y hy)⟩, fun i hi => absurd hi (Nat.not_lt_zero _), hb⟩
  have := hG.lo x (hdom x hx)
  omega

/-! ### The statement 'byType[r.Type] = append(byType[r.Type], ..)': what its loads, its look-up and its append lean on -/
def S15 (rB g l : Nat) (x : ByteArray) (v : Value) (w' : World) : Prop :=
  w'.cell? ⟨rB, 0, none⟩ = some (.string x) ∧ w'.cell? ⟨rB, 1, none⟩ = some v ∧ w'.there g (l * 2) 2
theorem S15.alloc {rB g l : Nat} {x : ByteArray} {v : Value} {w' : World} (h : S15 rB g l x v w') (o : Obj) : S15 rB g l x v (w'.alloc o) :=
  ⟨Lib.cell?_alloc_some _ h.1, Lib.cell?_alloc_some _ h.2.1, World.there_alloc h.2.2 _⟩
theorem S15.drew {rB g l : Nat} {x : ByteArray} {v : Value} {w' : World} (h : S15 rB g l x v w') : S15 rB g l x v w'.drew := h
theorem look27 {bm N g l c : Nat} {x : ByteArray} {D : DataW Unit} (hkey : keyOf Yba.prog 9 (.string x) = some (kl x)) (hat : ∀ z, D.atKey (kl x) z = sl g l c) (W : World) (h : W.ownsMap Yba.prog 9 R3 bm N D) :
    (Instr.lookup 27 (.map (some bm)) (.string x) false).run Yba.prog W = .ok (.slice (some ⟨g, 0, none⟩) l c) W := by
  obtain ⟨v, ps, hrun, hv⟩ := h.lookup law9 Yba.underlying27 (zero30 W) (zd := .nil) (zp := []) rfl hkey
  rw [hat] at hv
  rw [hrun, R3_inv hv]
theorem upd27 {bm N g l c : Nat} {x : ByteArray} {D : DataW Unit} (hkey : keyOf Yba.prog 9 (.string x) = some (kl x)) (hN : N < maxLen) :
    ∃ U : World → World, ∀ W, W.ownsMap Yba.prog 9 R3 bm N D → (Instr.mapUpdate 27 (.map (some bm)) (.string x) (.slice (some ⟨g, 0, none⟩) l c)).run Yba.prog W = .ok () (U W) ∧
      (U W).ownsMap Yba.prog 9 R3 bm (N + 1) (D.put (kl x) (sl g l c)) ∧ W.grownBy (U W) (some bm) := by
  classical
  refine ⟨fun W => if h : W.ownsMap Yba.prog 9 R3 bm N D then Classical.choose (h.update law9 Yba.underlying27 hN hkey (R3_mk g l c)) else W, fun W h => ?_⟩
  simp only [dif_pos h]
  exact Classical.choose_spec (h.update law9 Yba.underlying27 hN hkey (R3_mk g l c))
theorem S15.spare {rB g l : Nat} {x : ByteArray} {v : Value} {w' : World} (h : S15 rB g l x v w') (a b : Value) : ∀ j, j < [a, b].length → (w'.cell? ⟨g, 0 + l * 2 + j, none⟩).isSome = true ∧ w'.frozen? ⟨g, 0 + l * 2 + j, none⟩ = false :=
  fun j hj => by rw [Nat.zero_add]; exact h.2.2 j hj
theorem S15.set {rB g l : Nat} {x : ByteArray} {v : Value} {w' : World} (h : S15 rB g l x v w') (hr : rB ≠ g) (o : Nat) (a b : Value) : S15 rB g l x v (w'.setCells g o [a, b]) := by
  refine ⟨?_, ?_, World.there_setCells h.2.2 _ _ _⟩
  · rw [World.cell?_setCells_out _ _ _ _ _ (fun e => absurd e hr)]; exact h.1
  · rw [World.cell?_setCells_out _ _ _ _ _ (fun e => absurd e hr)]; exact h.2.1
theorem S15.grown {rB g l bm : Nat} {x : ByteArray} {v : Value} {w' w2 : World} (h : S15 rB g l x v w') (hg : w'.grownBy w2 (some bm)) (h1 : rB ≠ bm) (h2 : g ≠ bm) : S15 rB g l x v w2 := by
  have hr : w2.heap[rB]? = w'.heap[rB]? := hg.block _ (World.block_lt_of_cell? w' _ h.1) (by simpa using h1)
  have hgl : g < w'.heap.size := by
    obtain ⟨u, hu⟩ := Option.isSome_iff_exists.1 (h.2.2 0 (by omega)).1
    exact World.block_lt_of_cell? w' _ hu
  have hr2 : w2.heap[g]? = w'.heap[g]? := hg.block _ hgl (by simpa using h2)
  refine ⟨?_, ?_, fun j hj => ⟨?_, ?_⟩⟩
  · rw [World.cell?_of_block (w := w') hr]; exact h.1
  · rw [World.cell?_of_block (w := w') hr]; exact h.2.1
  · rw [World.cell?_of_block (w := w') hr2]; exact (h.2.2 j hj).1
  · rw [World.frozen?_of_block (w := w') hr2]; exact (h.2.2 j hj).2

theorem rel3_step {w wr wu : World} {n i : Nat} {T : Nat → ByteArray} {A : Nat → Option Addr} {L C : Nat → Nat} {bm N : Nat} {D : DataW Unit} {G : ByteArray → Nat} (hi : i < n) (hN : N ≤ 4096 + i) (hbw : w.heap.size < bm)
    (h : wr.ownsMap Yba.prog 9 R3 bm N D ∧ (∀ x, Maps.has D (kl x) = decide (0 < cnt T x n)) ∧ Maps.size D = dn T n ∧ Groups n T (bm + 1) (fun x => cnt T x i) (fun x => 0 < cnt T x n) D G wr ∧
      (∀ j, j < i → wr.cell? ⟨G (T j), cnt T (T j) j * 2, none⟩ = some (.int .i64 (j : Int)) ∧ wr.cell? ⟨G (T j), cnt T (T j) j * 2 + 1, none⟩ = some (.slice (A j) (L j) (C j))) ∧ Below w.heap.size w wr)
    (o1 o2 : Obj) (hown : wu.ownsMap Yba.prog 9 R3 bm (N + 1) (D.put (kl (T i)) (sl (G (T i)) (cnt T (T i) i + 1) (cnt T (T i) n))))
    (hg : (((wr.alloc o1).alloc o2).drew.setCells (G (T i)) (cnt T (T i) i * 2) [.int .i64 (i : Int), .slice (A i) (L i) (C i)]).grownBy wu (some bm)) : Rel3 w n T A L C bm (i + 1) wu := by
  obtain ⟨ho, hh, hsz, hG, hc, hb⟩ := h
  have hpos : 0 < cnt T (T i) n := by have := cnt_lt (T := T) (x := T i) rfl hi; omega
  have hlt : cnt T (T i) i < cnt T (T i) n := cnt_lt rfl hi
  have hbm := ho.lt
  have hlo := fun x hx => hG.lo x hx
  have hin : ∀ x, 0 < cnt T x n → G x < wr.heap.size := fun x hx => by
    obtain ⟨cur, h1, _⟩ := hG.blk x hx
    exact (Array.getElem?_eq_some_iff.1 h1).1
  generalize hW : ((wr.alloc o1).alloc o2).drew = w1 at hg
  have hw1 : ∀ b, b < wr.heap.size → w1.heap[b]? = wr.heap[b]? := fun b hb => by
    rw [← hW]
    show ((wr.alloc o1).alloc o2).heap[b]? = _
    rw [Below.heap_alloc _ _ _ (by simp; omega), Below.heap_alloc _ _ _ hb]
  have hz1 : wr.heap.size ≤ w1.heap.size := by
    rw [← hW]
    show _ ≤ ((wr.alloc o1).alloc o2).heap.size
    simp
    omega
  have hb1 : Below w.heap.size w w1 := by
    rw [← hW]
    exact ((hb.alloc hb.size _).alloc (by simp; exact Nat.le_succ_of_le hb.size) _).drew
  -- the row of T i
  obtain ⟨cur, hcur, hcs⟩ := hG.blk (T i) hpos
  have hrow : w1.rowIs (G (T i)) 33 (cnt T (T i) n * 2) (fun o => cur.getD o undef) := ⟨cur, by rw [hw1 _ (hin _ hpos)]; exact hcur, hcs, fun o ho => by simp [hcs, ho]⟩
  have hrow2 := (hrow.set (cnt T (T i) i * 2) (.int .i64 (i : Int))).set (cnt T (T i) i * 2 + 1) (.slice (A i) (L i) (C i))
  have hset : w1.setCells (G (T i)) (cnt T (T i) i * 2) [.int .i64 (i : Int), .slice (A i) (L i) (C i)] = (w1.setCell ⟨G (T i), cnt T (T i) i * 2, none⟩ (.int .i64 (i : Int))).setCell ⟨G (T i), cnt T (T i) i * 2 + 1, none⟩ (.slice (A i) (L i) (C i)) := rfl
  rw [hset] at hg
  generalize hW2 : (w1.setCell ⟨G (T i), cnt T (T i) i * 2, none⟩ (.int .i64 (i : Int))).setCell ⟨G (T i), cnt T (T i) i * 2 + 1, none⟩ (.slice (A i) (L i) (C i)) = w2 at hg hrow2
  have hw2 : ∀ b, b ≠ G (T i) → w2.heap[b]? = w1.heap[b]? := fun b hb => by
    rw [← hW2, heap_set_other _ _ _ _ hb, heap_set_other _ _ _ _ hb]
  have hz2 : w2.heap.size = w1.heap.size := by rw [← hW2]; simp
  have hu : ∀ b, b < wr.heap.size → b ≠ bm → wu.heap[b]? = w2.heap[b]? := fun b hb hne => hg.block _ (by omega) (by simpa using hne)
  have hne : ∀ x, 0 < cnt T x n → G x ≠ bm := fun x hx => by have := hlo x hx; omega
  have hrowu : wu.rowIs (G (T i)) 33 (cnt T (T i) n * 2) _ := hrow2.of_block (hu _ (hin _ hpos) (hne _ hpos))
  refine ⟨N + 1, _, G, by omega, hown, fun x => ?_, ?_, ⟨fun x hx z => ?_, hlo, fun x hx => ?_, hG.inj⟩, fun j hj => ?_, ?_⟩
  · by_cases e : x = T i
    · subst e
      rw [Maps.has_put_same ho.isMap (kl_key _)]
      simp [hpos]
    · rw [Maps.has_put_other (kl_ne e), hh]
  · rw [Maps.size_put (ho.tidy law9), hh, hsz]
    simp [hpos]
  · by_cases e : x = T i
    · subst e
      rw [Maps.atKey_put_same ho.isMap (kl_key _), cnt_yes rfl]
    · rw [Maps.atKey_put_other (kl_ne e), hG.at_ x hx z, cnt_no (fun h => e h.symm)]
  · by_cases e : x = T i
    · subst e
      obtain ⟨c, h1, h2, _⟩ := hrowu
      exact ⟨c, h1, h2⟩
    · have hgx : G x ≠ G (T i) := fun h => e (hG.inj _ _ hx hpos h)
      obtain ⟨c, h1, h2⟩ := hG.blk x hx
      exact ⟨c, by rw [hu _ (hin _ hx) (hne _ hx), hw2 _ hgx, hw1 _ (hin _ hx)]; exact h1, h2⟩
  · by_cases e : j = i
    · subst e
      refine ⟨?_, ?_⟩
      · rw [hrowu.cell (by omega), if_neg (by omega), if_pos rfl]
      · rw [hrowu.cell (by omega), if_pos rfl]
    · have hjn : 0 < cnt T (T j) n := by have := cnt_lt (T := T) (x := T j) rfl (show j < n by omega); omega
      obtain ⟨k0, k1⟩ := hc j (by omega)
      by_cases ex : T j = T i
      · have hjl : cnt T (T i) j < cnt T (T i) i := cnt_lt ex (by omega)
        rw [ex] at k0 k1 ⊢
        have hb0 : w1.cell? ⟨G (T i), cnt T (T i) j * 2, none⟩ = some (.int .i64 (j : Int)) := by rw [World.cell?_of_block (w := wr) (hw1 _ (hin _ hpos))]; exact k0
        have hb2 : w1.cell? ⟨G (T i), cnt T (T i) j * 2 + 1, none⟩ = some (.slice (A j) (L j) (C j)) := by rw [World.cell?_of_block (w := wr) (hw1 _ (hin _ hpos))]; exact k1
        rw [hrow.cell (by omega)] at hb0 hb2
        refine ⟨?_, ?_⟩
        · rw [hrowu.cell (by omega), if_neg (by omega), if_neg (by omega)]; exact hb0
        · rw [hrowu.cell (by omega), if_neg (by omega), if_neg (by omega)]; exact hb2
      · have hgx : G (T j) ≠ G (T i) := fun h => ex (hG.inj _ _ hjn hpos h)
        have hblk : wu.heap[G (T j)]? = wr.heap[G (T j)]? := by rw [hu _ (hin _ hjn) (hne _ hjn), hw2 _ hgx, hw1 _ (hin _ hjn)]
        exact ⟨by rw [World.cell?_of_block (w := wr) hblk]; exact k0, by rw [World.cell?_of_block (w := wr) hblk]; exact k1⟩
  · have hb2 : Below w.heap.size w w2 := by
      rw [← hW2]
      have := hlo _ hpos
      exact (hb1.setCell (show w.heap.size ≤ G (T i) by omega) _).setCell (show w.heap.size ≤ G (T i) by omega) _
    exact hb2.grown hg hb2.size (fun j hj => by cases hj; omega)

set_option maxHeartbeats 2000000 in
set_option maxRecDepth 100000 in
theorem rank_any (ao : Option Addr) (n c : Nat) (T : Nat → ByteArray) (A : Nat → Option Addr) (L C : Nat → Nat) (s : Nat → Nat → ByteArray) (w : World) (hn : n ≤ 4096) (hT : ∀ i, i < n → (T i).size ≤ maxLen)
    (hx : 0 < n → ∃ rb ro, ao = some ⟨rb, ro, none⟩ ∧ Rules w rb ro n T A L C s) :
    Calls Yba.prog 5 #[.slice ao n c] w fun e w' => ∃ bm, e = .returned (.map (some bm)) ∧ Rel3 w n T A L C bm n w' := by
  have hmm := @run_makeMap Yba.prog
  have HX : Hid (0 < n → ∃ rb ro, ao = some ⟨rb, ro, none⟩ ∧ Rules w rb ro n T A L C s) := hx
  have HT : Hid (∀ i, i < n → (T i).size ≤ maxLen) := hT
  clear hx hT
  go_enter Yba.func5, Yba.ntmps5
  go_wp2
  go_loopg [14] n (fun g s14 wr => ∃ k : Nat, k ≤ n ∧ n - k ≤ g ∧ s14 = .int .i64 k ∧ Below w.heap.size w wr ∧ ∃ D : DataW Unit, wr.ownsMap Yba.prog 9 (plainElem Yba.prog 3) w.heap.size k D ∧ I1 T k D)
  case atStart => exact ⟨0, Nat.zero_le _, by omega, rfl, (Below.refl _ _).alloc (Nat.le_refl _) _, .map [], World.ownsMap_made _ _ _ _, I1_zero T⟩
  case round =>
    obtain ⟨k, hk, hg, rfl, hb, D, hown, hI⟩ := hrel
    by_cases hlt : k < n
    · obtain ⟨rb, ro, rfl, hR⟩ := HX.out (by omega)
      have hrb := hR.lt (by omega)
      obtain ⟨c0, c1, _⟩ := hR k hlt
      rw [← hb.cell (p := ⟨rb, ro + k * 2, none⟩) hrb] at c0
      rw [← hb.cell (p := ⟨rb, ro + k * 2 + 1, none⟩) hrb] at c1
      have hlk := cnt_le T (T k) k
      have HK : Hid (keyOf Yba.prog 9 (.string (T k)) = some (kl (T k))) := WideMaps.keyOf_string_mk Yba.underlying9 (HT.out k hlt)
      have HI : Hid (I1 T k D) := hI
      have HO : Hid (wr.ownsMap Yba.prog 9 (plainElem Yba.prog 3) w.heap.size k D) := hown
      clear hI hR hown
      go_wp2_with (first | (at_lookup; refine wpList_lookup_own_int _ rfl _ _ 37 rfl 9 3 .i64 law9 Yba.underlying37 Yba.underlying3 (zero3 _) w.heap.size k _ rfl (HO.out.alloc _) _ _ rfl HK.out ?_; intro cc hat hwc) | (at_mapUpdate; refine wpList_mapUpdate_own _ rfl _ _ _ 37 rfl 9 3 law9 Yba.underlying37 _ w.heap.size k _ rfl (HO.out.alloc _) (by unfold maxLen; omega) _ _ _ rfl rfl HK.out _ [] (plainElem_int Yba.underlying3 (wrap64_wf _)) ?_; intro w1 hown1 hgrow1))
      have hcc : cc = (cnt T (T k) k : Int) := by
        have := HI.out.2.1 (T k)
        rw [hat] at this
        simpa using this
      subst hcc
      go_roundg (n - (k + 1))
      case measure => omega
      case rel =>
        have e : wrap64 ((cnt T (T k) k : Int) + 1) = ((cnt T (T k) k + 1 : Nat) : Int) := by unfold wrap64; omega
        rw [e] at hown1
        exact ⟨k + 1, by omega, by omega, by go_num, (hb.alloc hb.size _).grown hgrow1 (by simp; exact Nat.le_succ_of_le hb.size) (fun j hj => by cases hj; exact Nat.le_refl _), _, hown1, I1_step HI.out (HO.out.tidy law9)⟩
    · have : k = n := by omega
      subst this
      have hmm2 : ∀ (h : Int) (w : World), (Instr.makeMap 27 (some (.int .i64 h))).run Yba.prog w = .ok (.map (some w.heap.size)) (w.alloc (.map #[] 0)) := fun h w => by
        simp [Instr.makeMap, run_underlying Yba.underlying27, asInt, asIntOf, newObj]
        rfl
      have hsz : Maps.size D ≤ 4096 := by rw [hI.2.2]; exact Nat.le_trans (dn_le T k) hn
      have HO : Hid (wr.ownsMap Yba.prog 9 (plainElem Yba.prog 3) w.heap.size k D) := hown
      have HI : Hid (I1 T k D) := hI
      have HB : Hid (Below w.heap.size w wr) := hb
      have hbm : w.heap.size < wr.heap.size := hown.lt
      clear hown hI hb
      go_wp2_with (first | (at_len; refine wpList_len_own _ rfl _ 37 rfl _ _ Yba.underlying37 _ w.heap.size k _ rfl HO.out ?_) | (at_range; refine wpList_range_own _ rfl _ 37 rfl 9 3 law9 Yba.underlying37 _ w.heap.size k D rfl (HO.out.alloc _) ?_; intro w0 hrg0 hg0 hs0))
      go_frame
      have R0 : Hid (Rel2 w k T D wr.heap.size (wr.heap.size + 1) (Maps.size D) w0) := by
        rw [World.size_alloc] at hrg0
        refine ⟨_, Maps.size D, 0, .map [], fun _ => 0, Nat.le_refl _, by omega, hrg0, (World.ownsMap_made wr _ _ _).kept hg0 (by simp), (fun kk => by cases Maps.has D kk <;> rfl), ⟨(fun x hx => by cases hx), (fun x hx => by cases hx), (fun x hx => by cases hx), (fun x _ hx => by cases hx)⟩, ?_⟩
        exact (HB.out.alloc (by omega) _).grown hg0 (by simp; omega) (fun j hj => by cases hj)
      clear hrg0 hg0 hs0 HO HB
      rw [World.size_alloc]
      generalize wr.heap.size = bm at R0 hbm ⊢
      have hbr : w.heap.size ≠ bm + 1 := by omega
      go_loopg [7] (Maps.size D) (fun g _ wr2 => Rel2 w k T D bm (bm + 1) g wr2)
      case atStart => exact R0.out
      case round =>
        obtain ⟨left, c2, N, D2, G, hc2, hN, hrg, hout, hhas, hG, hb2⟩ := hrel
        have HR : Hid ((∀ kk, Maps.has D2 kk = (Maps.has D kk && !left kk)) ∧ Groups k T (bm + 1 + 1) (fun _ => 0) (fun x => Maps.has D2 (kl x) = true) D2 G wr ∧ Below w.heap.size w wr) := ⟨hhas, hG, hb2⟩
        clear hhas hG hb2
        have HRG : Hid (wr.ranges Yba.prog 9 (plainElem Yba.prog 3) w.heap.size (bm + 1) k D left c2) := hrg
        have HOUT : Hid (wr.ownsMap Yba.prog 9 R3 bm N D2) := hout
        clear hrg hout
        go_wp2_with (at_next; refine wpList_next_ranges _ rfl _ rfl 9 law9 (plainElem Yba.prog 3) Value.string (Value.int .i64) (fun key kl hk => Maps.keyOf_string_inv Yba.underlying9 hk) (fun v y hv => by obtain ⟨c, rfl, _⟩ := plainElem_int_inv Yba.underlying3 hv; exact ⟨c, rfl⟩) w.heap.size (bm + 1) k _ _ _ rfl HRG.out ?_ ?_)
        · intro hc0 hl0
          have R3s : Hid (Rel3 w k T A L C bm 0 wr) := rel3_start HI.out hN HRG.out HOUT.out HR.out.1 HR.out.2.1 HR.out.2.2 hl0
          clear HI HRG HOUT HR R0
          go_wp2
          go_loopg [40] k (fun g s40 wr3 => ∃ i : Nat, i ≤ k ∧ k - i ≤ g ∧ s40 = .int .i64 i ∧ Rel3 w k T A L C bm i wr3)
          case atStart => exact ⟨0, Nat.zero_le _, by omega, rfl, R3s.out⟩
          case round =>
            obtain ⟨i, hi, hgi, rfl, N3, D3, G3, hN3, hown3, hh3, hs3, hG3, hc3, hb3⟩ := hrel
            by_cases hik : i < k
            · obtain ⟨rb, ro, rfl, hR⟩ := HX.out (by omega)
              have hrb := hR.lt (by omega)
              obtain ⟨c0, c1, _⟩ := hR i hik
              rw [← hb3.cell (p := ⟨rb, ro + i * 2, none⟩) hrb] at c0
              rw [← hb3.cell (p := ⟨rb, ro + i * 2 + 1, none⟩) hrb] at c1
              have HF : Hid (wr.ownsMap Yba.prog 9 R3 bm N3 D3 ∧ (∀ x, Maps.has D3 (kl x) = decide (0 < cnt T x k)) ∧ Maps.size D3 = dn T k ∧ Groups k T (bm + 1) (fun x => cnt T x i) (fun x => 0 < cnt T x k) D3 G3 wr ∧
                (∀ j, j < i → wr.cell? ⟨G3 (T j), cnt T (T j) j * 2, none⟩ = some (.int .i64 (j : Int)) ∧ wr.cell? ⟨G3 (T j), cnt T (T j) j * 2 + 1, none⟩ = some (.slice (A j) (L j) (C j))) ∧ Below w.heap.size w wr) := ⟨hown3, hh3, hs3, hG3, hc3, hb3⟩
              clear hown3 hh3 hs3 hG3 hc3 hb3 hR
              have hxk : cnt T (T i) i < cnt T (T i) k := cnt_lt rfl hik
              have hck := Nat.le_trans (cnt_le T (T i) k) hn
              obtain ⟨cur, hcur, hcs⟩ := HF.out.2.2.2.1.blk (T i) (by omega)
              have hlo := HF.out.2.2.2.1.lo (T i) (by omega)
              have hgl : G3 (T i) < wr.heap.size := (Array.getElem?_eq_some_iff.1 hcur).1
              have hbml : bm < wr.heap.size := HF.out.1.lt
              have HK : Hid (keyOf Yba.prog 9 (.string (T i)) = some (kl (T i))) := WideMaps.keyOf_string_mk Yba.underlying9 (HT.out i hik)
              have hlook := look27 (bm := bm) (N := N3) HK.out (HF.out.2.2.2.1.at_ (T i) (by omega))
              obtain ⟨U, hU⟩ := upd27 (bm := bm) (N := N3) (D := D3) (g := G3 (T i)) (l := cnt T (T i) i + 1) (c := cnt T (T i) k) HK.out (by unfold maxLen; omega)
              have hupd : ∀ W : World, W.ownsMap Yba.prog 9 R3 bm N3 D3 → (Instr.mapUpdate 27 (.map (some bm)) (.string (T i)) (.slice (some ⟨G3 (T i), 0, none⟩) (cnt T (T i) i + 1) (cnt T (T i) k))).run Yba.prog W = .ok () (U W) := fun W h => (hU W h).1
              have HU : Hid (∀ W : World, W.ownsMap Yba.prog 9 R3 bm N3 D3 → (U W).ownsMap Yba.prog 9 R3 bm (N3 + 1) (D3.put (kl (T i)) (sl (G3 (T i)) (cnt T (T i) i + 1) (cnt T (T i) k))) ∧ W.grownBy (U W) (some bm)) := fun W h => (hU W h).2
              clear hU
              have S0 : Hid (S15 wr.heap.size (G3 (T i)) (cnt T (T i) i) (T i) (.slice (A i) (L i) (C i)) (wr.alloc (.cells #[.string (T i), .slice (A i) (L i) (C i)] 25))) := by
                refine ⟨?_, ?_, World.there_alloc (fun j hj => ?_) _⟩
                · rw [World.cell?_alloc_at _ _ _ _ rfl]; rfl
                · rw [World.cell?_alloc_at _ _ _ _ rfl]; rfl
                · have hlt2 : cnt T (T i) i * 2 + j < cur.size := by rw [hcs]; omega
                  refine ⟨?_, ?_⟩
                  · rw [cell_of_row _ _ _ _ _ _ hcur]; simp [hlt2]
                  · simp [World.frozen?, hcur]
              have OW : Hid ((wr.alloc (.cells #[.string (T i), .slice (A i) (L i) (C i)] 25)).ownsMap Yba.prog 9 R3 bm N3 D3) := HF.out.1.alloc _
              obtain ⟨i33, hi33, hz33, hs33, hb33⟩ := info_parts info33
              have hgr : wr.heap.size ≠ G3 (T i) := by omega
              have hgb : bm ≠ G3 (T i) := by omega
              have hrb2 : wr.heap.size ≠ bm := by omega
              clear hcur hcs
              have FIN : Hid (∀ wu, U (((wr.alloc (.cells #[.string (T i), .slice (A i) (L i) (C i)] 25)).alloc (.cells #[.int .i64 (i : Int), .slice (A i) (L i) (C i)] 33)).drew.setCells (G3 (T i)) (cnt T (T i) i * 2) [.int .i64 (i : Int), .slice (A i) (L i) (C i)]) = wu → Rel3 w k T A L C bm (i + 1) wu) := by
                rintro wu rfl
                have hO := (((OW.out.alloc (.cells #[.int .i64 (i : Int), .slice (A i) (L i) (C i)] 33)).drew).setCell (a := ⟨G3 (T i), cnt T (T i) i * 2, none⟩) hgb (.int .i64 (i : Int))).setCell (a := ⟨G3 (T i), cnt T (T i) i * 2 + 1, none⟩) hgb (.slice (A i) (L i) (C i))
                exact rel3_step hik hN3 hbm HF.out _ _ (HU.out _ hO).1 (HU.out _ hO).2
              clear HF
              go_wp2_with fail
              generalize G3 (T i) = g at *
              generalize cnt T (T i) i = l at *
              generalize cnt T (T i) k = cc at *
              generalize wr.alloc (.cells #[.string (T i), .slice (A i) (L i) (C i)] 25) = wa at S0 OW FIN ⊢
              generalize wr.heap.size = rB at S0 hgr hrb2 ⊢
              have S0' := S0.out
              unfold S15 at S0'
              have hlk1 := hlook _ OW.out.drew
              have hlk2 := hlook _ (OW.out.alloc (.cells #[.int .i64 (i : Int), .slice (A i) (L i) (C i)] 33)).drew
              have O9 : Hid (((wa.alloc (.cells #[.int .i64 (i : Int), .slice (A i) (L i) (C i)] 33)).drew.setCells g (l * 2) [.int .i64 (i : Int), .slice (A i) (L i) (C i)]).ownsMap Yba.prog 9 R3 bm N3 D3) := (((OW.out.alloc _).drew).setCell hgb _).setCell hgb _
              have hupd9 := hupd _ O9.out
              have S9 : Hid (S15 rB g l (T i) (.slice (A i) (L i) (C i)) (U ((wa.alloc (.cells #[.int .i64 (i : Int), .slice (A i) (L i) (C i)] 33)).drew.setCells g (l * 2) [.int .i64 (i : Int), .slice (A i) (L i) (C i)]))) := (((S0.out.alloc _).drew).set hgr _ _ _).grown (HU.out _ O9.out).2 hrb2 (Ne.symm hgb)
              clear hupd hlook
              generalize hUW : U ((wa.alloc (.cells #[.int .i64 (i : Int), .slice (A i) (L i) (C i)] 33)).drew.setCells g (l * 2) [.int .i64 (i : Int), .slice (A i) (L i) (C i)]) = wu at hupd9 S9
              have UW : Hid (U ((wa.alloc (.cells #[.int .i64 (i : Int), .slice (A i) (L i) (C i)] 33)).drew.setCells g (l * 2) [.int .i64 (i : Int), .slice (A i) (L i) (C i)]) = wu) := hUW
              clear hUW
              go_region_held3 (fun w' => w'.cell? ⟨rB, 0, none⟩ = some (.string (T i)) ∧ w'.cell? ⟨rB, 1, none⟩ = some (.slice (A i) (L i) (C i)) ∧ w'.there g (l * 2) 2) ((show S15 rB g l (T i) (.slice (A i) (L i) (C i)) _; first | assumption | exact S15.drew (by assumption) | exact S15.alloc (by assumption) _ | exact S15.set (by assumption) hgr _ _ _ | exact S9.out)) ((refine step_append_room (by rfl) _ _ 30 (by rfl) 33 i33 2 Yba.underlying30 hi33 hs33 g 0 l cc (by rfl) ⟨wa.heap.size, 0, none⟩ 1 1 [.int .i64 (i : Int), .slice (A i) (L i) (C i)] (by rfl) (by rfl) (World.news_of_block (cs := #[.int .i64 (i : Int), .slice (A i) (L i) (C i)]) (t := 33) (fr := (0, 0)) (heap_alloc_new wa _)) (by simp [Value.oneCell']) (by omega) (S15.spare (rB := rB) (x := T i) (v := .slice (A i) (L i) (C i)) (by assumption) _ _) ?_))
              all_goals go_wp2
              all_goals go_roundg (k - (i + 1))
              all_goals first | (case measure => omega) | skip
              all_goals exact ⟨i + 1, by omega, by omega, by go_num, FIN.out _ UW.out⟩
            · have hik2 : i = k := by omega
              subst hik2
              have FIN : Hid (Rel3 w i T A L C bm i wr) := ⟨N3, D3, G3, hN3, hown3, hh3, hs3, hG3, hc3, hb3⟩
              clear hown3 hh3 hs3 hG3 hc3 hb3
              go_wp2
              go_ret
              exact ⟨bm, rfl, FIN.out⟩
        · intro x cc kx y ps w1 cnt1 hkey hlx hv hat hrg1 hlt hg1 hs1 hen
          obtain ⟨rfl, hxs⟩ := kl_inv Yba.underlying9 hkey
          obtain ⟨c', ec, ey, hwc⟩ := plainElem_int_inv Yba.underlying3 hv
          cases ec
          simp only [Prod.mk.injEq] at ey
          obtain ⟨rfl, rfl⟩ := ey
          have hhd : Maps.has D (kl x) = true := Maps.has_true_of_atKey hat
          have hcc : cc = (cnt T x k : Int) := by
            have := HI.out.2.1 x
            rw [hat] at this
            simpa using this
          subst hcc
          have hcl := Nat.le_trans (cnt_le T x k) hn
          have hmk := make30 (cnt T x k) hcl
          have HK : Hid (keyOf Yba.prog 9 (.string x) = some (kl x)) := hkey
          have H1 : Hid (w1.ranges Yba.prog 9 (plainElem Yba.prog 3) w.heap.size (bm + 1) k D (fun z => left z && !z.sameKey (kl x)) cnt1 ∧ wr.grownBy w1 (some (bm + 1)) ∧ w1.heap.size = wr.heap.size ∧ cnt1 < c2 ∧ Maps.has D (kl x) = true) := ⟨hrg1, hg1, hs1, hlt, hhd⟩
          have HO1 : Hid (w1.ownsMap Yba.prog 9 R3 bm N D2) := HOUT.out.kept hg1 (by simp)
          clear hrg1 hg1 hs1 hhd hat hlx hv hwc hkey hlt
          go_wp2_with (at_mapUpdate; refine wpList_mapUpdate_own _ rfl _ _ _ 27 rfl 9 30 law9 Yba.underlying27 R3 bm N D2 rfl (HO1.out.alloc _) (by unfold maxLen; omega) _ _ _ rfl rfl HK.out _ [] (R3_mk _ _ _) ?_; intro w3 hown3 hg3; go_frame)
          go_roundg cnt1
          case measure => have := H1.out.2.2.2.1; omega
          case rel =>
            exact rel2_step hbm rfl HR.out.1 HR.out.2.1 HR.out.2.2 HOUT.out.isMap H1.out.2.2.2.2 H1.out.1 H1.out.2.1 H1.out.2.2.1 hown3 hg3 (Nat.le_refl _) (by have := H1.out.2.2.2.1; omega)
end Go.Proofs.Ybulkejvc
