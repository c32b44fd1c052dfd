import Derived.Test.YbulkejuoEq
namespace Go.Proofs.Ybulkejuo
open Go.RowKit

def tagH (h : Int) : Int := 128 + h / 144115188075855872
def stops (t : Nat → Int) (k : Nat → Int × Int) (tag : Int) (q : Int × Int) (j : Nat) : Bool := t j == 0 || (t j == tag && keq (k j) q)

set_option maxHeartbeats 400000 in
set_option maxRecDepth 100000 in
theorem slot_any (bm bt bk S st : Nat) (t : Nat → Int) (k : Nat → Int × Int) (q : Int × Int) (h : Int) (w : World) (h0 : 0 ≤ h) (h1 : h < 18446744073709551616) (hS1 : 1 ≤ S) (hS : S ≤ 1024)
    (hand : ∀ x : Int, bits .and .i64 x ((S : Int) - 1) = x % (S : Int)) (hst : wrap64 h % (S : Int) = (st : Int))
    (hm2 : w.cell? ⟨bm, 2, none⟩ = some (.slice (some ⟨bt, 0, none⟩) S S)) (hm3 : w.cell? ⟨bm, 3, none⟩ = some (.slice (some ⟨bk, 0, none⟩) S S))
    (ht : ∀ j, j < S → w.cell? ⟨bt, j, none⟩ = some (.int .u8 (t j))) (hk : ∀ j, j < S → w.rangeAt bk (j * 40) (kcs (k j)))
    (z : Nat) (hz : z < S) (hz0 : t ((st + z) % S) = 0) :
    Calls Yba.prog 6 #[.pointer (some ⟨bm, 0, none⟩), .agg (kcs q).toArray, .int .u64 h] w fun e w' => ∃ d n, d < S ∧ (∀ d', d' < d → stops t k (tagH h) q ((st + d') % S) = false) ∧ stops t k (tagH h) q ((st + d) % S) = true ∧
      e = .returned (.tuple #[.int .i64 (((st + d) % S : Nat) : Int), .bool (!(t ((st + d) % S) == 0))]) ∧ w' = (w.alloc (.cells (kcs q).toArray 29)).drewN n := by
  have m2 := Lib.cell?_alloc_some (.cells (kcs q).toArray 29) hm2
  have m3 := Lib.cell?_alloc_some (.cells (kcs q).toArray 29) hm3
  have mt : ∀ j, j < S → (w.alloc (.cells (kcs q).toArray 29)).cell? ⟨bt, j, none⟩ = some (.int .u8 (t j)) := fun j hj => Lib.cell?_alloc_some _ (ht j hj)
  have mk : Hid (∀ j, j < S → (w.alloc (.cells (kcs q).toArray 29)).rangeAt bk (j * 40) (kcs (k j))) := fun j hj => World.rangeAt_alloc (hk j hj) _
  have mq : (w.alloc (.cells (kcs q).toArray 29)).rangeAt w.heap.size 0 (kcs q) := by
    intro j v hv
    have hb : (w.alloc (.cells (kcs q).toArray 29)).heap[w.heap.size]? = some (.cells (kcs q).toArray 29 (0, 0)) := heap_alloc_new _ _
    rw [cell_of_row _ _ _ _ _ _ hb]
    simpa using hv
  clear hm2 hm3 ht hk
  have Z : Hid (t ((st + z) % S) = 0) := hz0
  clear hz0
  have HT : Hid (∀ j, j < S → (w.alloc (.cells (kcs q).toArray 29)).cell? ⟨bt, j, none⟩ = some (.int .u8 (t j))) := mt
  clear mt
  have hu := Yba.underlying29
  have hql : (Yba.prog.info? 29).map (·.size) = some (kcs q).length := by rw [size29, kcs_length]
  generalize hw1 : w.alloc (.cells (kcs q).toArray 29) = w1 at m2 m3 HT mk mq
  have hst1 : (st : Int) < (S : Int) := by rw [← hst]; exact Int.emod_lt_of_pos _ (by omega)
  go_enter Yba.func6, Yba.ntmps6
  go_wp2_with (go_at_call 9; refine (tagOf_any _ h0 h1 _).mono ?_; rintro e w' ⟨rfl, rfl⟩)
  have Hw : Hid (w.alloc (.cells (kcs q).toArray 29) = w') := hw1
  clear hw1
  go_loopg [6] S (fun g s6 wr => ∃ d n : Nat, d ≤ z ∧ S - d ≤ g ∧ s6 = .int .i64 (((st + d) % S : Nat) : Int) ∧ wr = w'.drewN n ∧ Hid (∀ d', d' < d → stops t k (tagH h) q ((st + d') % S) = false))
  case atStart => exact ⟨0, 0, Nat.zero_le _, by omega, by rw [Nat.add_zero, Nat.mod_eq_of_lt (by omega)], rfl, fun d' hd' => absurd hd' (Nat.not_lt_zero _)⟩
  case round =>
    obtain ⟨d, n, hd, hg, rfl, rfl, A⟩ := hrel
    generalize hj : (st + d) % S = j at *
    have hjS : j < S := by rw [← hj]; exact Nat.mod_lt _ (by omega)
    have J : Hid ((st + d) % S = j) := hj
    clear hj
    have c1 := HT.out j hjS
    have c2 := mk.out j hjS
    have E : Hid (stops t k (tagH h) q j = (t j == 0 || (t j == 128 + h / 144115188075855872 && keq (k j) q))) := rfl
    have F : Hid ((t ((st + z) % S) = 0) → t j ≠ 0 → d < z) := by
      intro a b
      rcases Nat.lt_or_ge d z with c | c
      · exact c
      · exfalso; apply b; rw [← J.out, show d = z by omega]; exact a
    have NX : Hid ((((st + (d + 1)) % S : Nat) : Int) = ((j : Int) + 1) % (S : Int)) := by
      show (((st + (d + 1)) % S : Nat) : Int) = ((j : Int) + 1) % (S : Int)
      rw [← J.out]
      push_cast
      rw [Int.emod_add_emod, Int.add_assoc]
    have hil : (Yba.prog.info? 29).map (·.size) = some (kcs (k j)).length := by rw [size29, kcs_length]
    have he := eqlK
    have hgd := guardK
    generalize k j = y at E c2 hil
    by_cases hx : t j = 0
    · rw [hx] at c1
      go_wp2
      go_ret2
      refine ⟨d, n, by omega, A.out, ?_, ?_, ?_⟩
      · rw [J.out, E.out, hx]; rfl
      · rw [J.out, hx]; rfl
      · first | rfl | rw [World.drewN_drewN] | rw [Hw.out]
    have hdz := F.out Z.out hx
    have hx' : (t j == 0) = false := by simpa using hx
    generalize hxd : t j = x at c1 E hx hx'
    have XD : Hid (t j = x) := hxd
    clear hxd
    by_cases hxt : x = 128 + h / 144115188075855872
    · have E' : Hid (stops t k (tagH h) q j = keq y q) := by show stops t k (tagH h) q j = keq y q; rw [E.out, hx']; simp [hxt]
      subst hxt
      cases hyq : keq y q with
      | true =>
        go_wp2_with fail
        refine wp_region_quiet_lit (by kernel_rfl) (by kernel_rfl) ?_
        repeat (first | (go_big_quiet_want; (first | refine quiet_load_mid 29 _ rfl _ _ rfl _ _ c2 hu rfl hil ?_ | refine quiet_load_mid 29 _ rfl _ _ rfl _ _ mq hu rfl hql ?_); (simp only [Act.put, List.setIfInBounds_toArray, List.set_cons_zero, List.set_cons_succ]); go_big_quiet_on) | go_big_quiet_step (fail))
        refine wpQuiet_nil ?_
        rintro _ ⟨nq, rfl⟩
        go_wp2
        go_ret2
        refine ⟨d, n + nq, by omega, A.out, ?_, ?_, ?_⟩
        · rw [J.out, E'.out, hyq]
        · rw [J.out, XD.out, hx']; rfl
        · first | rfl | rw [World.drewN_drewN] | rw [Hw.out]
      | false =>
        go_wp2_with fail
        refine wp_region_quiet_lit (by kernel_rfl) (by kernel_rfl) ?_
        repeat (first | (go_big_quiet_want; (first | refine quiet_load_mid 29 _ rfl _ _ rfl _ _ c2 hu rfl hil ?_ | refine quiet_load_mid 29 _ rfl _ _ rfl _ _ mq hu rfl hql ?_); (simp only [Act.put, List.setIfInBounds_toArray, List.set_cons_zero, List.set_cons_succ]); go_big_quiet_on) | go_big_quiet_step (fail))
        refine wpQuiet_nil ?_
        rintro _ ⟨nq, rfl⟩
        go_wp2
        go_roundg (S - (d + 1))
        case measure => omega
        case rel => 
          refine ⟨d + 1, n + nq, by omega, by omega, by rw [NX.out], rfl, (show Hid _ from fun d' hd' => ?_)⟩
          by_cases e : d' = d
          · subst e; rw [J.out, E'.out, hyq]
          · exact A.out d' (by omega)
    · go_wp2
      go_roundg (S - (d + 1))
      case measure => omega
      case rel => 
        refine ⟨d + 1, n, by omega, by omega, by rw [NX.out], rfl, (show Hid _ from fun d' hd' => ?_)⟩
        by_cases e : d' = d
        · subst e; rw [J.out, E.out, hx']; simp [hxt]
        · exact A.out d' (by omega)
end Go.Proofs.Ybulkejuo
