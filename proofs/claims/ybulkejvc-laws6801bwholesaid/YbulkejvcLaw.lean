import Derived.Test.YbulkejvcTypes
import Derived.Laws.Pointers
namespace Go.Proofs.Ybulkejvc
open Go.RowKit

/-- The rules that came in: nil means none; where there is one they lie in memory. -/
structure Given (w : World) (ao : Option Addr) (n : Nat) (T : Nat → ByteArray) (A : Nat → Option Addr) (L C : Nat → Nat) (s : Nat → Nat → ByteArray) : Prop where
  nil : ao = none → n = 0
  size : ∀ i, i < n → (T i).size ≤ maxLen
  len : ∀ i, i < n → L i ≤ 8796093022208
  at_ : 0 < n → ∃ rb ro, ao = some ⟨rb, ro, none⟩ ∧ Rules w rb ro n T A L C s
theorem Given.below {w w' : World} {ao : Option Addr} {n : Nat} {T : Nat → ByteArray} {A : Nat → Option Addr} {L C : Nat → Nat} {s : Nat → Nat → ByteArray} (h : Given w ao n T A L C s) (hb : Below w.heap.size w w') : Given w' ao n T A L C s :=
  ⟨h.nil, h.size, h.len, fun hn => by
    obtain ⟨rb, ro, e, hR⟩ := h.at_ hn
    exact ⟨rb, ro, e, hR.below hb⟩⟩

/-- What the world holds behind the two calls. -/
structure St (w : World) (ao : Option Addr) (n : Nat) (T : Nat → ByteArray) (A : Nat → Option Addr) (L C : Nat → Nat) (s : Nat → Nat → ByteArray) (bo : Option Addr) (A' : Nat → Option Addr) (bm : Nat) (D : DataW Unit) (G : ByteArray → Nat) (w5 : World) : Prop where
  given : Given w5 ao n T A L C s
  before : 0 < n → ∃ g, bo = some ⟨g, 0, none⟩ ∧ Rules w5 g 0 n T A' L L s
  isn : bo.isNone = ao.isNone
  isn' : ∀ i, i < n → (A' i).isNone = (A i).isNone
  own : ∃ N, w5.ownsMap Yba.prog 9 R3 bm N D
  has : ∀ x, Maps.has D (kl x) = decide (0 < cnt T x n)
  size : Maps.size D = dn T n
  at_ : ∀ x, 0 < cnt T x n → ∀ z, D.atKey (kl x) z = sl (G x) (cnt T x n) (cnt T x n)
  cells : ∀ i, i < n → w5.cell? ⟨G (T i), cnt T (T i) i * 2, none⟩ = some (.int .i64 (i : Int)) ∧ w5.cell? ⟨G (T i), cnt T (T i) i * 2 + 1, none⟩ = some (.slice (A i) (L i) (C i))
  below : Below w.heap.size w w5
theorem owns_below {w w' : World} {P : Program} {k : TypeId} {R : Value → Option (DataW Unit × List MemPlace)} {b N : Nat} {D : DataW Unit} (h : w.ownsMap P k R b N D) (hb : Below w.heap.size w w') : w'.ownsMap P k R b N D := by
  have hl := h.lt
  obtain ⟨es, clock, h1, h2⟩ := h
  exact ⟨es, clock, by rw [hb.block _ hl]; exact h1, h2⟩
theorem St.next {w : World} {ao : Option Addr} {n : Nat} {T : Nat → ByteArray} {A : Nat → Option Addr} {L C : Nat → Nat} {s : Nat → Nat → ByteArray} {bo : Option Addr} {A' : Nat → Option Addr} {bm : Nat} {D : DataW Unit} {G : ByteArray → Nat} {w5 w6 : World}
    (h : St w ao n T A L C s bo A' bm D G w5) (hb : Below w5.heap.size w5 w6) : St w ao n T A L C s bo A' bm D G w6 :=
  ⟨h.given.below hb, fun hn => by
    obtain ⟨g, e, hR⟩ := h.before hn
    exact ⟨g, e, hR.below hb⟩, h.isn, h.isn', by
    obtain ⟨N, hN⟩ := h.own
    exact ⟨N, owns_below hN hb⟩, h.has, h.size, h.at_, fun i hi => ⟨cell_later hb (h.cells i hi).1, cell_later hb (h.cells i hi).2⟩, h.below.trans (hb.mono h.below.size)⟩

theorem equalIn35 (d : Nat) (a : Addr) (w : World) : (Op.equalIn (d + 1) 35 (.pointer (some a)) (.pointer (some a))).run Yba.prog w = .ok true w := by
  simp [Op.equalIn, run_underlying Yba.underlying35, Yba.sizeOf9, sameAddr]
theorem neq35 (a : Addr) (w : World) : (binOp .neq 35 (.pointer (some a)) (.pointer (some a))).run Yba.prog w = .ok (.bool false) w := by
  have h := equalIn35 9999 a w
  simp only [binOp]
  simp [Op.equal, Op.maxDepth, h]
theorem look27ok {bm N g l c : Nat} {x : ByteArray} {D : DataW Unit} (hkey : keyOf Yba.prog 9 (.string x) = some (kl x)) (hat : ∀ z, D.atKey (kl x) z = sl g l c) (hh : Maps.has D (kl x) = true) (W : World) (h : W.ownsMap Yba.prog 9 R3 bm N D) :
    (Instr.lookup 27 (.map (some bm)) (.string x) true).run Yba.prog W = .ok (.tuple #[.slice (some ⟨g, 0, none⟩) l c, .bool true]) W := by
  obtain ⟨v, ps, hrun, hv⟩ := h.look_ok law9 Yba.underlying27 (zero30 W) (zd := .nil) (zp := []) rfl hkey
  rw [hat] at hv
  rw [hrun, R3_inv hv, hh]
theorem bdrew {B : Nat} {a w : World} (h : Below B a w) (n : Nat) : Below B a (w.drewN n) := ⟨h.os, h.tape, h.output, h.size, h.block⟩
theorem own_lo {w : World} {B e sz : Nat} {v : Value} {n : Nat} {xs : List Value} (h : w.ownsRow B e sz v n xs) : ∀ k, v.ownBlock = some k → B ≤ k := by
  intro k hk
  obtain ⟨_, ⟨rfl, _⟩ | ⟨g, cap, cur, rfl, hg, _⟩⟩ := h
  · cases hk
  · simp [Value.ownBlock] at hk
    omega

set_option maxHeartbeats 1000000 in
set_option maxRecDepth 100000 in
theorem law_walk (ao : Option Addr) (n c : Nat) (T : Nat → ByteArray) (A : Nat → Option Addr) (L C : Nat → Nat) (s : Nat → Nat → ByteArray) (w : World) (hn : n ≤ 4096) (hG : Given w ao n T A L C s) :
    Calls Yba.prog 3 #[.slice ao n c] w fun e w' => e = .returned (.bool true) ∧ Below w.heap.size w w' := by
  have HG : Hid (Given w ao n T A L C s) := hG
  clear hG
  have q22 : ∀ (w : World) (a : Option Addr) (n c n' c' : Nat), (binOp .eql 22 (.slice a n c) (.slice none n' c')).run Yba.prog w = .ok (.bool a.isNone) w := fun w a n c n' c' => Lib.run_eql_slice_nil w _ _ a n c n' c' Yba.underlying22
  go_enter Yba.func3, Yba.ntmps3
  go_wp2
  go_loopg [3, 24] n (fun g s3 s24 wr => ∃ k : Nat, k ≤ n ∧ n - k ≤ g ∧ s24 = .int .i64 k ∧ s3 = .int .i64 (tot L k : Nat) ∧ Below w.heap.size w wr)
  case atStart => exact ⟨0, Nat.zero_le _, by omega, rfl, rfl, Below.refl _ _⟩
  case round =>
    obtain ⟨k, hk, hg, rfl, rfl, hb⟩ := hrel
    have htk := tot_le HG.out.len k hk
    by_cases hlt : k < n
    · obtain ⟨rb, ro, rfl, hR⟩ := HG.out.at_ (by omega)
      have hlk := HG.out.len k hlt
      have hrb := hR.lt (by omega)
      obtain ⟨c0, c1, _⟩ := hR k hlt
      rw [← hb.cell (p := ⟨rb, ro + k * 2, none⟩) hrb] at c0
      rw [← hb.cell (p := ⟨rb, ro + k * 2 + 1, none⟩) hrb] at c1
      clear hR
      go_wp2
      go_roundg (n - (k + 1))
      case measure => omega
      case rel => exact ⟨k + 1, by omega, by omega, by go_num, by show _ = Value.int .i64 ((tot L k + L k : Nat) : Int); go_num, hb.alloc hb.size _⟩
    · have : k = n := by omega
      subst this
      by_cases ht : tot L k ≤ 1048576
      · have GW : Hid (Given w ao k T A L C s ∧ Below w.heap.size w wr) := ⟨HG.out, hb⟩
        have G1 : Hid (Given wr ao k T A L C s) := by
          have hG := HG.out
          exact ⟨hG.nil, hG.size, hG.len, fun hn => by
            obtain ⟨rb, ro, e, hR⟩ := hG.at_ hn
            have hrb := hR.lt hn
            exact ⟨rb, ro, e, hR.below hb⟩⟩
        have hq27 : ∀ (w : World) (r : Option Nat), (binOp .eql 27 (.map r) (.map none)).run Yba.prog w = .ok (.bool r.isNone) w := fun w r => run_eql_map_nil w 27 9 30 r Yba.underlying27
        go_wp2_with fail
        refine (clone_any ao k c T A L C s wr hn (fun i hi => Nat.le_trans (le_tot hi) ht) G1.out.nil G1.out.at_).mono ?_
        rintro e w4 ⟨bo, A', rfl, hbo, hbef, hA', hb4⟩
        have C4 : Hid (bo.isNone = ao.isNone ∧ (0 < k → ∃ g, bo = some ⟨g, 0, none⟩ ∧ Rules w4 g 0 k T A' L L s) ∧ (∀ i, i < k → (A' i).isNone = (A i).isNone) ∧ Below wr.heap.size wr w4) := ⟨hbo, hbef, hA', hb4⟩
        clear hbo hbef hA' hb4
        have G4 : Hid (Given w4 ao k T A L C s) := G1.out.below C4.out.2.2.2
        go_wp2_with fail
        refine (rank_any ao k c T A L C s w4 hn G4.out.size G4.out.at_).mono ?_
        rintro e w5 ⟨bm, rfl, N, D, G, hN, hown, hhas, hsize, hgr, hcells, hb5⟩
        have ST : Hid (St w ao k T A L C s bo A' bm D G w5) := by
          refine ⟨G4.out.below hb5, fun hn => ?_, C4.out.1, C4.out.2.2.1, ⟨N, hown⟩, hhas, hsize, fun x hx => hgr.at_ x hx, hcells, ?_⟩
          · obtain ⟨g, e, hR⟩ := C4.out.2.1 hn
            exact ⟨g, e, hR.below hb5⟩
          · exact (GW.out.2.trans (C4.out.2.2.2.mono GW.out.2.size)).trans (hb5.mono (Nat.le_trans GW.out.2.size C4.out.2.2.2.size))
        clear hN hown hhas hsize hgr hcells hb5 C4 G4 G1 GW hb HG
        obtain ⟨i9, hi9, hz9, hs9, hb9⟩ := info_parts info9
        go_wp2
        go_loopg [8, 44] k (fun g s8 s44 wr2 => ∃ i : Nat, i ≤ k ∧ k - i ≤ g ∧ s44 = .int .i64 i ∧ wr2.ownsRow w5.heap.size 9 1 s8 (tys T i).length ((tys T i).map Value.string) ∧ Below w5.heap.size w5 wr2)
        case atStart => exact ⟨0, Nat.zero_le _, by omega, rfl, World.ownsRow_nil _ _ _ _, Below.refl _ _⟩
        case round =>
          obtain ⟨i, hi, hgi, rfl, hown, hb6⟩ := hrel
          by_cases hik : i < k
          · obtain ⟨bg, rfl, hR⟩ := ST.out.before (by omega)
            have hbg := hR.lt (by omega)
            obtain ⟨c0, c1, _⟩ := hR i hik
            rw [← hb6.cell (p := ⟨bg, 0 + i * 2, none⟩) hbg] at c0
            rw [← hb6.cell (p := ⟨bg, 0 + i * 2 + 1, none⟩) hbg] at c1
            simp only [Nat.zero_add] at c0 c1
            obtain ⟨va, vc, rfl, hvals⟩ := vals_of_own hown
            have hml : (tys T i).length ≤ 4096 := by rw [tys_length]; exact Nat.le_trans (dn_le T i) (by omega)
            have HO : Hid (wr.ownsRow w5.heap.size 9 1 (.slice va (tys T i).length vc) (tys T i).length ((tys T i).map Value.string)) := hown
            have hvals' : Vals (wr.alloc (.cells #[.string (T i), .slice (A' i) (L i) (L i)] 25)) va (tys T i).length (fun j => (tys T i).getD j ByteArray.empty) := hvals.below ((Below.refl _ _).alloc (Nat.le_refl _) _)
            have HV : Hid (Vals (wr.alloc (.cells #[.string (T i), .slice (A' i) (L i) (L i)] 25)) va (tys T i).length (fun j => (tys T i).getD j ByteArray.empty)) := hvals'
            have HB : Hid (Below w5.heap.size w5 wr) := hb6
            have hz6 := hb6.size
            clear hR hown hvals hvals' hb6
            go_wp2_with fail
            by_cases h0 : cnt T (T i) i = 0
            · have TN : Hid (tys T (i + 1) = tys T i ++ [T i]) := tys_new h0
              refine (contains_no va _ vc _ (T i) _ HV.out hml (fun j hj e => ?_)).mono ?_
              · have := (mem_tys T (T i) i).1 (e ▸ getD_mem hj)
                omega
              rintro e w7 ⟨rfl, hw7⟩
              subst hw7
              clear h0
              go_wp2_with (at_builtin; refine wpList_append_own _ rfl _ _ 23 rfl w5.heap.size 9 i9 (.string ByteArray.empty) 1 16 Yba.underlying23 hi9 hz9 hs9 hb9 rfl (by decide) _ _ _ rfl ((HO.out.alloc _).alloc _) ⟨wr.heap.size + 1, 0, none⟩ 1 1 [.string (T i)] rfl rfl ?c1 ?c2 ?c3 ?c4 ?c5 ?_)
              case c1 =>
                refine World.news_of_block (cs := #[.string (T i)]) (t := 9) (fr := (0, 0)) ?_
                have := heap_alloc_new (wr.alloc (.cells #[.string (T i), .slice (A' i) (L i) (L i)] 25)) (.cells #[.string (T i)] 9)
                simpa using this
              case c2 => intro u hu; simp at hu; subst hu; rfl
              case c3 => unfold maxLen; omega
              case c4 => omega
              case c5 => simp; omega
              intro v8 w8 hown8 hgrow8 hnn
              have HO8 : Hid (w8.ownsRow w5.heap.size 9 1 v8 ((tys T i).length + 1) ((tys T i).map Value.string ++ [.string (T i)])) := hown8
              have HB8 : Hid (Below w5.heap.size w5 w8) := ((HB.out.alloc hz6 _).alloc (by simp; omega) _).grown hgrow8 (by simp; omega) (own_lo HO.out)
              clear hown8 hgrow8 hnn
              go_wp2
              go_roundg (k - (i + 1))
              case measure => omega
              case rel => exact ⟨i + 1, by omega, by omega, by go_num, by rw [TN.out]; simpa using HO8.out, HB8.out⟩
            · refine (contains_yes va _ vc _ (T i) _ HV.out hml (mem_getD ((mem_tys T (T i) i).2 (by omega)))).mono ?_
              rintro e w7 ⟨rfl, hw7⟩
              subst hw7
              go_wp2
              go_roundg (k - (i + 1))
              case measure => omega
              case rel => exact ⟨i + 1, by omega, by omega, by go_num, by rw [tys_old h0]; exact HO.out.alloc _, HB.out.alloc hz6 _⟩
          · have hik2 : i = k := by omega
            subst hik2
            obtain ⟨va, vc, rfl, hvals⟩ := vals_of_own hown
            have hml : (tys T i).length ≤ 4096 := by rw [tys_length]; exact Nat.le_trans (dn_le T i) hn
            have S6 : Hid (St w ao i T A L C s bo A' bm D G wr) := ST.out.next hb6
            have HV : Hid (Vals wr va (tys T i).length (fun j => (tys T i).getD j ByteArray.empty)) := hvals
            clear hown hvals hb6 ST
            obtain ⟨N6, hN6⟩ := S6.out.own
            have hsize : Maps.size D = (tys T i).length := by rw [S6.out.size, tys_length]
            have O6 : Hid (wr.ownsMap Yba.prog 9 R3 bm N6 D) := hN6
            clear hN6
            go_wp2_with (refine wpList_len_own _ rfl (.tmp 59) 27 rfl _ _ Yba.underlying27 _ bm N6 D rfl O6.out ?_)
            clear O6
            rename World => w6
            go_loopg [66] (tys T i).length (fun g s66 wr3 => ∃ j : Nat, j ≤ (tys T i).length ∧ (tys T i).length - j ≤ g ∧ s66 = .int .i64 j ∧ Below w6.heap.size w6 wr3)
            case atStart => exact ⟨0, Nat.zero_le _, by omega, rfl, Below.refl _ _⟩
            case round =>
              obtain ⟨j, hj, hgj, rfl, hb7⟩ := hrel
              have S7 : Hid (St w ao i T A L C s bo A' bm D G wr) := S6.out.next hb7
              have HB7 : Hid (Below w6.heap.size w6 wr) := hb7
              by_cases hjm : j < (tys T i).length
              · obtain ⟨tb, to, rfl, htc⟩ := (HV.out.below hb7).2 (by omega)
                have ct : wr.cell? ⟨tb, to + j, none⟩ = some (.string ((tys T i).getD j ByteArray.empty)) := htc j hjm
                have tpos : 0 < cnt T ((tys T i).getD j ByteArray.empty) i := (mem_tys T _ i).1 (getD_mem hjm)
                generalize (tys T i).getD j ByteArray.empty = t at ct tpos
                clear htc hb7
                obtain ⟨i0, hi0, ei0⟩ := cnt_pos tpos
                have hkey : keyOf Yba.prog 9 (.string t) = some (kl t) := WideMaps.keyOf_string_mk Yba.underlying9 (by rw [← ei0]; exact S7.out.given.size i0 hi0)
                obtain ⟨N7, hN7⟩ := S7.out.own
                have hlook := look27ok hkey (S7.out.at_ t tpos) (by rw [S7.out.has]; simpa using tpos) wr hN7
                have hcl := Nat.le_trans (cnt_le T t i) hn
                clear hkey hN7 ei0
                go_wp2_with fail
                rename World => w7
                go_loopg [15, 80] i (fun g s15 s80 wr4 => ∃ x : Nat, x ≤ i ∧ i - x ≤ g ∧ s80 = .int .i64 x ∧ s15 = .int .i64 (cnt T t x : Nat) ∧ Below w7.heap.size w7 wr4)
                case atStart => exact ⟨0, Nat.zero_le _, by omega, rfl, rfl, Below.refl _ _⟩
                case round =>
                  obtain ⟨x, hx, hgx, rfl, rfl, hb8⟩ := hrel
                  have S8 : Hid (St w ao i T A L C s bo A' bm D G wr) := S7.out.next hb8
                  have HB8 : Hid (Below w7.heap.size w7 wr) := hb8
                  have hz8 := hb8.size
                  have hcx := cnt_mono T t hx
                  clear hb8 hlook
                  by_cases hxi : x < i
                  · obtain ⟨bg, rfl, hR⟩ := S8.out.before (by omega)
                    obtain ⟨c0, c1, cv⟩ := hR x hxi
                    simp only [Nat.zero_add] at c0 c1
                    by_cases et : T x = t
                    · obtain ⟨k0, k1⟩ := S8.out.cells x hxi
                      rw [et] at c0 k0 k1
                      obtain ⟨rb, ro, rfl, hR2⟩ := S8.out.given.at_ (by omega)
                      obtain ⟨r0, r1, rv⟩ := hR2 x hxi
                      have hrl := World.block_lt_of_cell? wr _ r1
                      have hkl := World.block_lt_of_cell? wr _ k1
                      have hct := cnt_lt et hxi
                      have hlx := Nat.le_trans (le_tot (L := L) hxi) ht
                      have CY : Hid (cnt T t (x + 1) = cnt T t x + 1) := cnt_yes et
                      have his := (S8.out.isn' x hxi).symm
                      have V1 : Hid (∀ n, Vals ((wr.alloc (.cells #[.string t, .slice (A' x) (L x) (L x)] 25)).drewN n) (A x) (L x) (s x)) := fun n => (rv.below ((Below.refl _ _).alloc (Nat.le_refl _) _)).drewN n
                      have V2 : Hid (∀ n, Vals ((wr.alloc (.cells #[.string t, .slice (A' x) (L x) (L x)] 25)).drewN n) (A' x) (L x) (s x)) := fun n => (cv.below ((Below.refl _ _).alloc (Nat.le_refl _) _)).drewN n
                      have RV : Hid (Vals wr (A x) (L x) (s x)) := rv
                      have IS : Hid ((A x).isNone = (A' x).isNone) := his
                      have hcn : (cnt T t x : Int) < (cnt T t i : Int) := by omega
                      have hc0 : (0 : Int) ≤ (cnt T t x : Int) := by omega
                      clear hR hR2 cv rv his S7 S6
                      generalize cnt T t x = cx at *
                      generalize cnt T t i = cn at *
                      generalize G t = g at *
                      go_wp2_with fail
                      go_quiet ((go_at_call 7; exact Calls.quiet_of (eqvals_same (A x) (A' x) (L x) (C x) (L x) (s x) _ IS.out (V1.out _) (V2.out _) hlx)))
                      go_wp2_with fail
                      have hp := neq35
                      by_cases hL0 : L x = 0
                      · have hd : decide ((0 : Int) < (L x : Int)) = false := decide_eq_false (by omega)
                        go_quiet (fail)
                        go_wp2
                        go_roundg (i - (x + 1))
                        case measure => omega
                        case rel =>
                          refine ⟨x + 1, by omega, by omega, by go_num, by rw [CY.out]; go_num, ?_⟩
                          first | exact bdrew (HB8.out.alloc hz8 _) _ | exact bdrew (bdrew (HB8.out.alloc hz8 _) _) _
                      · obtain ⟨vb, vo, hAx, _⟩ := RV.out.2 (by omega)
                        rw [hAx] at k1 r1
                        have hL1 : (0 : Int) < (L x : Int) := by omega
                        have hL2 : 0 < L x := by omega
                        have hd : decide ((0 : Int) < (L x : Int)) = true := decide_eq_true hL1
                        clear hAx
                        go_quiet (fail)
                        go_wp2
                        go_roundg (i - (x + 1))
                        case measure => omega
                        case rel =>
                          refine ⟨x + 1, by omega, by omega, by go_num, by rw [CY.out]; go_num, ?_⟩
                          first | exact bdrew (HB8.out.alloc hz8 _) _ | exact bdrew (bdrew (HB8.out.alloc hz8 _) _) _
                    · have hne := bytes_ne et
                      have CN : Hid (cnt T t (x + 1) = cnt T t x) := cnt_no et
                      clear hR cv
                      go_wp2
                      go_roundg (i - (x + 1))
                      case measure => omega
                      case rel => exact ⟨x + 1, by omega, by omega, by go_num, by rw [CN.out], HB8.out.alloc hz8 _⟩
                  · have hxi2 : x = i := by omega
                    subst hxi2
                    go_wp2
                    go_roundg ((tys T x).length - (j + 1))
                    case measure => omega
                    case rel => exact ⟨j + 1, by omega, by omega, by go_num, HB7.out.trans (HB8.out.mono HB7.out.size)⟩
              · have hisn := S7.out.isn
                go_wp2_with fail
                rename World => w8
                go_loopg [152] i (fun g s152 wr5 => ∃ x q : Nat, x ≤ i ∧ i - x ≤ g ∧ s152 = .int .i64 x ∧ wr5 = w8.drewN q)
                case atStart => exact ⟨0, 0, Nat.zero_le _, by omega, rfl, rfl⟩
                case round =>
                  obtain ⟨x, q, hx, hgx, rfl, rfl⟩ := hrel
                  by_cases hxi : x < i
                  · obtain ⟨bg, hbo, hR⟩ := S7.out.before (by omega)
                    obtain ⟨rb, ro, hao, hR2⟩ := S7.out.given.at_ (by omega)
                    clear hisn
                    subst hbo hao
                    obtain ⟨c0, c1, cv⟩ := hR x hxi
                    simp only [Nat.zero_add] at c0 c1
                    obtain ⟨r0, r1, rv⟩ := hR2 x hxi
                    have hlx := Nat.le_trans (le_tot (L := L) hxi) ht
                    have IS : Hid ((A x).isNone = (A' x).isNone) := (S7.out.isn' x hxi).symm
                    have V1 : Hid (∀ n, Vals ((w8.drewN q).drewN n) (A x) (L x) (s x)) := fun n => (rv.drewN q).drewN n
                    have V2 : Hid (∀ n, Vals ((w8.drewN q).drewN n) (A' x) (L x) (s x)) := fun n => (cv.drewN q).drewN n
                    have hxi1 : (x : Int) < (i : Int) := by omega
                    have hxi0 : (0 : Int) ≤ (x : Int) := by omega
                    clear hR hR2 cv rv S7 S6
                    generalize hwq : w8.drewN q = wq at V1 V2 ⊢
                    have d0 : wq.cell? ⟨bg, x * 2, none⟩ = some (.string (T x)) := by rw [← hwq, World.cell?_drewN]; exact c0
                    have d1 : wq.cell? ⟨bg, x * 2 + 1, none⟩ = some (.slice (A' x) (L x) (L x)) := by rw [← hwq, World.cell?_drewN]; exact c1
                    have d2 : wq.cell? ⟨rb, ro + x * 2, none⟩ = some (.string (T x)) := by rw [← hwq, World.cell?_drewN]; exact r0
                    have d3 : wq.cell? ⟨rb, ro + x * 2 + 1, none⟩ = some (.slice (A x) (L x) (C x)) := by rw [← hwq, World.cell?_drewN]; exact r1
                    have WQ : Hid (w8.drewN q = wq) := hwq
                    clear hwq c0 c1 r0 r1
                    go_wp2_with fail
                    go_quiet ((go_at_call 7; exact Calls.quiet_of (eqvals_same (A x) (A' x) (L x) (C x) (L x) (s x) _ IS.out (V1.out _) (V2.out _) hlx)))
                    go_wp2
                    go_roundg (i - (x + 1))
                    case measure => omega
                    case rel => exact ⟨x + 1, q + nq, by omega, by omega, by go_num, by rw [← WQ.out, World.drewN_drewN]⟩
                  · go_wp2
                    go_ret
                    exact ⟨rfl, bdrew S7.out.below _⟩
      · go_wp2
        go_ret
        exact ⟨rfl, hb⟩

end Go.Proofs.Ybulkejvc
