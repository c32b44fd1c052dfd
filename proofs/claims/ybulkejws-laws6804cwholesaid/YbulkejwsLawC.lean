import Derived.Test.YbulkejwsExpect
namespace Go.Proofs.Ybulkejws
open Go.RowKit

theorem later {w wx : World} {a : Addr} {v : Value} (hb : Below w.heap.size w wx) (h : w.cell? a = some v) : wx.cell? a = some v := (hb.cell (World.block_lt_of_cell? _ _ h)).trans h

/-- The five boxes of the law: what three of them read. -/
theorem boxes (w : World) (c1 c3 : Array Value) (rd d j : Int) (W : World) (hW : ((((w.alloc (.cells c1 30)).alloc (.cells #[.int .i64 rd] 25)).alloc (.cells c3 32)).alloc (.cells #[.int .i64 d] 25)).alloc (.cells #[.int .i64 j] 25) = W) :
    W.cell? ⟨w.heap.size + 1, 0, none⟩ = some (.int .i64 rd) ∧ W.cell? ⟨w.heap.size + 1 + 1 + 1, 0, none⟩ = some (.int .i64 d) ∧ W.cell? ⟨w.heap.size + 1 + 1 + 1 + 1, 0, none⟩ = some (.int .i64 j) ∧ Below w.heap.size w W := by
  subst hW
  refine ⟨?_, ?_, ?_, ?_⟩
  · rw [World.cell?_alloc_past _ _ _ (by simp only [World.size_alloc]; omega), World.cell?_alloc_past _ _ _ (by simp only [World.size_alloc]; omega), World.cell?_alloc_past _ _ _ (by simp only [World.size_alloc]; omega), World.cell?_alloc_at _ _ _ _ (by simp only [World.size_alloc])]
    rfl
  · rw [World.cell?_alloc_past _ _ _ (by simp only [World.size_alloc]; omega), World.cell?_alloc_at _ _ _ _ (by simp only [World.size_alloc])]
    rfl
  · rw [World.cell?_alloc_at _ _ _ _ (by simp only [World.size_alloc])]
    rfl
  · exact (((((Below.refl _ w).alloc (Nat.le_refl _) _).alloc (by simp only [World.size_alloc]; omega) _).alloc (by simp only [World.size_alloc]; omega) _).alloc (by simp only [World.size_alloc]; omega) _).alloc (by simp only [World.size_alloc]; omega) _

set_option maxHeartbeats 1000000 in
set_option maxRecDepth 100000 in
theorem lawC_yyy (rd rdl rdp d disp j off mind : Int) (w : World) :
    Calls Yba.prog 4 #[.bool true, .int .i64 rd, .int .i64 rdl, .int .i64 rdp, .bool true, .int .i64 d, .int .i64 disp, .bool true, .int .i64 j, .int .i64 off, .int .i64 mind] w fun e w' => e = .returned (.bool true) ∧ Below w.heap.size w w' := by
  go_enter Yba.func4, Yba.ntmps4
  go_wp2_with fail
  generalize hw : ((((w.alloc (.cells #[.string ⟨#[97]⟩, .slice none 0 0, .pointer none, .pointer none, .int .i64 rdl, .int .i64 rdp, .pointer (some ⟨w.heap.size + 1, 0, none⟩), .bool false, .bool false, .bool false, .bool false, .string ⟨#[]⟩] 30)).alloc (.cells #[.int .i64 rd] 25)).alloc (.cells #[.int .i64 off, .pointer (some ⟨w.heap.size + 1 + 1 + 1, 0, none⟩), .int .i64 disp, .pointer (some ⟨w.heap.size + 1 + 1 + 1 + 1, 0, none⟩)] 32)).alloc (.cells #[.int .i64 d] 25)).alloc (.cells #[.int .i64 j] 25) = w5
  obtain ⟨r1, r2, r3, hB⟩ := boxes w _ _ _ _ _ _ hw
  have B5 : Hid (Below w.heap.size w w5) := hB
  clear hw hB
  refine (dist_given _ _ _ _ _ _ _ _ _ _ _ _ _ _ _ _ _ rd w5 r1).mono ?_
  rintro e w6 ⟨rfl, hb⟩
  have q1 := later hb r1
  have q2 := later hb r2
  have q3 := later hb r3
  have B6 : Hid (Below w.heap.size w w6) := B5.out.trans (hb.mono B5.out.size)
  clear hb r1 r2 r3 B5
  go_wp2_with fail
  refine (expect_given _ _ _ _ _ _ _ _ _ _).mono ?_
  rintro e w7 ⟨rfl, rfl⟩
  go_wp2
  go_ret
  exact ⟨rfl, B6.out⟩

set_option maxHeartbeats 1000000 in
set_option maxRecDepth 100000 in
theorem lawC_yyn (rd rdl rdp d disp j off mind : Int) (w : World) :
    Calls Yba.prog 4 #[.bool true, .int .i64 rd, .int .i64 rdl, .int .i64 rdp, .bool true, .int .i64 d, .int .i64 disp, .bool false, .int .i64 j, .int .i64 off, .int .i64 mind] w fun e w' => e = .returned (.bool true) ∧ Below w.heap.size w w' := by
  go_enter Yba.func4, Yba.ntmps4
  go_wp2_with fail
  generalize hw : ((((w.alloc (.cells #[.string ⟨#[97]⟩, .slice none 0 0, .pointer none, .pointer none, .int .i64 rdl, .int .i64 rdp, .pointer (some ⟨w.heap.size + 1, 0, none⟩), .bool false, .bool false, .bool false, .bool false, .string ⟨#[]⟩] 30)).alloc (.cells #[.int .i64 rd] 25)).alloc (.cells #[.int .i64 off, .pointer (some ⟨w.heap.size + 1 + 1 + 1, 0, none⟩), .int .i64 disp, .pointer none] 32)).alloc (.cells #[.int .i64 d] 25)).alloc (.cells #[.int .i64 j] 25) = w5
  obtain ⟨r1, r2, r3, hB⟩ := boxes w _ _ _ _ _ _ hw
  have B5 : Hid (Below w.heap.size w w5) := hB
  clear hw hB
  refine (dist_given _ _ _ _ _ _ _ _ _ _ _ _ _ _ _ _ _ rd w5 r1).mono ?_
  rintro e w6 ⟨rfl, hb⟩
  have q1 := later hb r1
  have q2 := later hb r2
  have q3 := later hb r3
  have B6 : Hid (Below w.heap.size w w6) := B5.out.trans (hb.mono B5.out.size)
  clear hb r1 r2 r3 B5
  go_wp2_with fail
  refine (expect_given _ _ _ _ _ _ _ _ _ _).mono ?_
  rintro e w7 ⟨rfl, rfl⟩
  go_wp2
  go_ret
  exact ⟨rfl, B6.out⟩

set_option maxHeartbeats 1000000 in
set_option maxRecDepth 100000 in
theorem lawC_yny (rd rdl rdp d disp j off mind : Int) (w : World) :
    Calls Yba.prog 4 #[.bool true, .int .i64 rd, .int .i64 rdl, .int .i64 rdp, .bool false, .int .i64 d, .int .i64 disp, .bool true, .int .i64 j, .int .i64 off, .int .i64 mind] w fun e w' => e = .returned (.bool true) ∧ Below w.heap.size w w' := by
  go_enter Yba.func4, Yba.ntmps4
  go_wp2_with fail
  generalize hw : ((((w.alloc (.cells #[.string ⟨#[97]⟩, .slice none 0 0, .pointer none, .pointer none, .int .i64 rdl, .int .i64 rdp, .pointer (some ⟨w.heap.size + 1, 0, none⟩), .bool false, .bool false, .bool false, .bool false, .string ⟨#[]⟩] 30)).alloc (.cells #[.int .i64 rd] 25)).alloc (.cells #[.int .i64 off, .pointer none, .int .i64 disp, .pointer (some ⟨w.heap.size + 1 + 1 + 1 + 1, 0, none⟩)] 32)).alloc (.cells #[.int .i64 d] 25)).alloc (.cells #[.int .i64 j] 25) = w5
  obtain ⟨r1, r2, r3, hB⟩ := boxes w _ _ _ _ _ _ hw
  have B5 : Hid (Below w.heap.size w w5) := hB
  clear hw hB
  refine (dist_given _ _ _ _ _ _ _ _ _ _ _ _ _ _ _ _ _ rd w5 r1).mono ?_
  rintro e w6 ⟨rfl, hb⟩
  have q1 := later hb r1
  have q2 := later hb r2
  have q3 := later hb r3
  have B6 : Hid (Below w.heap.size w w6) := B5.out.trans (hb.mono B5.out.size)
  clear hb r1 r2 r3 B5
  go_wp2_with fail
  refine (expect_given _ _ _ _ _ _ _ _ _ _).mono ?_
  rintro e w7 ⟨rfl, rfl⟩
  go_wp2
  go_ret
  exact ⟨rfl, B6.out⟩

set_option maxHeartbeats 1000000 in
set_option maxRecDepth 100000 in
theorem lawC_ynn (rd rdl rdp d disp j off mind : Int) (w : World) :
    Calls Yba.prog 4 #[.bool true, .int .i64 rd, .int .i64 rdl, .int .i64 rdp, .bool false, .int .i64 d, .int .i64 disp, .bool false, .int .i64 j, .int .i64 off, .int .i64 mind] w fun e w' => e = .returned (.bool true) ∧ Below w.heap.size w w' := by
  go_enter Yba.func4, Yba.ntmps4
  go_wp2_with fail
  generalize hw : ((((w.alloc (.cells #[.string ⟨#[97]⟩, .slice none 0 0, .pointer none, .pointer none, .int .i64 rdl, .int .i64 rdp, .pointer (some ⟨w.heap.size + 1, 0, none⟩), .bool false, .bool false, .bool false, .bool false, .string ⟨#[]⟩] 30)).alloc (.cells #[.int .i64 rd] 25)).alloc (.cells #[.int .i64 off, .pointer none, .int .i64 disp, .pointer none] 32)).alloc (.cells #[.int .i64 d] 25)).alloc (.cells #[.int .i64 j] 25) = w5
  obtain ⟨r1, r2, r3, hB⟩ := boxes w _ _ _ _ _ _ hw
  have B5 : Hid (Below w.heap.size w w5) := hB
  clear hw hB
  refine (dist_given _ _ _ _ _ _ _ _ _ _ _ _ _ _ _ _ _ rd w5 r1).mono ?_
  rintro e w6 ⟨rfl, hb⟩
  have q1 := later hb r1
  have q2 := later hb r2
  have q3 := later hb r3
  have B6 : Hid (Below w.heap.size w w6) := B5.out.trans (hb.mono B5.out.size)
  clear hb r1 r2 r3 B5
  go_wp2_with fail
  refine (expect_given _ _ _ _ _ _ _ _ _ _).mono ?_
  rintro e w7 ⟨rfl, rfl⟩
  go_wp2
  go_ret
  exact ⟨rfl, B6.out⟩

set_option maxHeartbeats 1000000 in
set_option maxRecDepth 100000 in
theorem lawC_nyy (rd rdl rdp d disp j off mind : Int) (w : World) :
    Calls Yba.prog 4 #[.bool false, .int .i64 rd, .int .i64 rdl, .int .i64 rdp, .bool true, .int .i64 d, .int .i64 disp, .bool true, .int .i64 j, .int .i64 off, .int .i64 mind] w fun e w' => e = .returned (.bool true) ∧ Below w.heap.size w w' := by
  go_enter Yba.func4, Yba.ntmps4
  go_wp2_with fail
  generalize hw : ((((w.alloc (.cells #[.string ⟨#[97]⟩, .slice none 0 0, .pointer none, .pointer none, .int .i64 rdl, .int .i64 rdp, .pointer none, .bool false, .bool false, .bool false, .bool false, .string ⟨#[]⟩] 30)).alloc (.cells #[.int .i64 rd] 25)).alloc (.cells #[.int .i64 off, .pointer (some ⟨w.heap.size + 1 + 1 + 1, 0, none⟩), .int .i64 disp, .pointer (some ⟨w.heap.size + 1 + 1 + 1 + 1, 0, none⟩)] 32)).alloc (.cells #[.int .i64 d] 25)).alloc (.cells #[.int .i64 j] 25) = w5
  obtain ⟨r1, r2, r3, hB⟩ := boxes w _ _ _ _ _ _ hw
  have B5 : Hid (Below w.heap.size w w5) := hB
  clear hw hB
  refine (dist_any _ _ _ _ _ _ _ _ _ _ _ _ _ _ _ _ d j w5 (.inr ⟨_, rfl, r2⟩) (.inr ⟨_, rfl, r3⟩)).mono ?_
  rintro e w6 ⟨rfl, hb⟩
  have q1 := later hb r1
  have q2 := later hb r2
  have q3 := later hb r3
  have B6 : Hid (Below w.heap.size w w6) := B5.out.trans (hb.mono B5.out.size)
  clear hb r1 r2 r3 B5
  have hE := expect_any rd rdl rdp true d disp true j mind w6
  simp only [if_true] at hE
  generalize distOf (halfOf rdl d mind) rdp disp j = X at *
  go_wp2_with fail
  refine hE.mono ?_
  rintro e w7 ⟨rfl, rfl⟩
  clear hE
  go_wp2
  go_ret
  exact ⟨rfl, B6.out⟩

set_option maxHeartbeats 1000000 in
set_option maxRecDepth 100000 in
theorem lawC_nyn (rd rdl rdp d disp j off mind : Int) (w : World) :
    Calls Yba.prog 4 #[.bool false, .int .i64 rd, .int .i64 rdl, .int .i64 rdp, .bool true, .int .i64 d, .int .i64 disp, .bool false, .int .i64 j, .int .i64 off, .int .i64 mind] w fun e w' => e = .returned (.bool true) ∧ Below w.heap.size w w' := by
  go_enter Yba.func4, Yba.ntmps4
  go_wp2_with fail
  generalize hw : ((((w.alloc (.cells #[.string ⟨#[97]⟩, .slice none 0 0, .pointer none, .pointer none, .int .i64 rdl, .int .i64 rdp, .pointer none, .bool false, .bool false, .bool false, .bool false, .string ⟨#[]⟩] 30)).alloc (.cells #[.int .i64 rd] 25)).alloc (.cells #[.int .i64 off, .pointer (some ⟨w.heap.size + 1 + 1 + 1, 0, none⟩), .int .i64 disp, .pointer none] 32)).alloc (.cells #[.int .i64 d] 25)).alloc (.cells #[.int .i64 j] 25) = w5
  obtain ⟨r1, r2, r3, hB⟩ := boxes w _ _ _ _ _ _ hw
  have B5 : Hid (Below w.heap.size w w5) := hB
  clear hw hB
  refine (dist_any _ _ _ _ _ _ _ _ _ _ _ _ _ _ _ _ d 0 w5 (.inr ⟨_, rfl, r2⟩) (.inl ⟨rfl, rfl⟩)).mono ?_
  rintro e w6 ⟨rfl, hb⟩
  have q1 := later hb r1
  have q2 := later hb r2
  have q3 := later hb r3
  have B6 : Hid (Below w.heap.size w w6) := B5.out.trans (hb.mono B5.out.size)
  clear hb r1 r2 r3 B5
  have hE := expect_any rd rdl rdp true d disp false j mind w6
  simp only [if_true, Bool.false_eq_true, if_false] at hE
  generalize distOf (halfOf rdl d mind) rdp disp 0 = X at *
  go_wp2_with fail
  refine hE.mono ?_
  rintro e w7 ⟨rfl, rfl⟩
  clear hE
  go_wp2
  go_ret
  exact ⟨rfl, B6.out⟩

set_option maxHeartbeats 1000000 in
set_option maxRecDepth 100000 in
theorem lawC_nny (rd rdl rdp d disp j off mind : Int) (w : World) :
    Calls Yba.prog 4 #[.bool false, .int .i64 rd, .int .i64 rdl, .int .i64 rdp, .bool false, .int .i64 d, .int .i64 disp, .bool true, .int .i64 j, .int .i64 off, .int .i64 mind] w fun e w' => e = .returned (.bool true) ∧ Below w.heap.size w w' := by
  go_enter Yba.func4, Yba.ntmps4
  go_wp2_with fail
  generalize hw : ((((w.alloc (.cells #[.string ⟨#[97]⟩, .slice none 0 0, .pointer none, .pointer none, .int .i64 rdl, .int .i64 rdp, .pointer none, .bool false, .bool false, .bool false, .bool false, .string ⟨#[]⟩] 30)).alloc (.cells #[.int .i64 rd] 25)).alloc (.cells #[.int .i64 off, .pointer none, .int .i64 disp, .pointer (some ⟨w.heap.size + 1 + 1 + 1 + 1, 0, none⟩)] 32)).alloc (.cells #[.int .i64 d] 25)).alloc (.cells #[.int .i64 j] 25) = w5
  obtain ⟨r1, r2, r3, hB⟩ := boxes w _ _ _ _ _ _ hw
  have B5 : Hid (Below w.heap.size w w5) := hB
  clear hw hB
  refine (dist_any _ _ _ _ _ _ _ _ _ _ _ _ _ _ _ _ 0 j w5 (.inl ⟨rfl, rfl⟩) (.inr ⟨_, rfl, r3⟩)).mono ?_
  rintro e w6 ⟨rfl, hb⟩
  have q1 := later hb r1
  have q2 := later hb r2
  have q3 := later hb r3
  have B6 : Hid (Below w.heap.size w w6) := B5.out.trans (hb.mono B5.out.size)
  clear hb r1 r2 r3 B5
  have hE := expect_any rd rdl rdp false d disp true j mind w6
  simp only [if_true, Bool.false_eq_true, if_false] at hE
  generalize distOf (halfOf rdl 0 mind) rdp disp j = X at *
  go_wp2_with fail
  refine hE.mono ?_
  rintro e w7 ⟨rfl, rfl⟩
  clear hE
  go_wp2
  go_ret
  exact ⟨rfl, B6.out⟩

set_option maxHeartbeats 1000000 in
set_option maxRecDepth 100000 in
theorem lawC_nnn (rd rdl rdp d disp j off mind : Int) (w : World) :
    Calls Yba.prog 4 #[.bool false, .int .i64 rd, .int .i64 rdl, .int .i64 rdp, .bool false, .int .i64 d, .int .i64 disp, .bool false, .int .i64 j, .int .i64 off, .int .i64 mind] w fun e w' => e = .returned (.bool true) ∧ Below w.heap.size w w' := by
  go_enter Yba.func4, Yba.ntmps4
  go_wp2_with fail
  generalize hw : ((((w.alloc (.cells #[.string ⟨#[97]⟩, .slice none 0 0, .pointer none, .pointer none, .int .i64 rdl, .int .i64 rdp, .pointer none, .bool false, .bool false, .bool false, .bool false, .string ⟨#[]⟩] 30)).alloc (.cells #[.int .i64 rd] 25)).alloc (.cells #[.int .i64 off, .pointer none, .int .i64 disp, .pointer none] 32)).alloc (.cells #[.int .i64 d] 25)).alloc (.cells #[.int .i64 j] 25) = w5
  obtain ⟨r1, r2, r3, hB⟩ := boxes w _ _ _ _ _ _ hw
  have B5 : Hid (Below w.heap.size w w5) := hB
  clear hw hB
  refine (dist_any _ _ _ _ _ _ _ _ _ _ _ _ _ _ _ _ 0 0 w5 (.inl ⟨rfl, rfl⟩) (.inl ⟨rfl, rfl⟩)).mono ?_
  rintro e w6 ⟨rfl, hb⟩
  have q1 := later hb r1
  have q2 := later hb r2
  have q3 := later hb r3
  have B6 : Hid (Below w.heap.size w w6) := B5.out.trans (hb.mono B5.out.size)
  clear hb r1 r2 r3 B5
  have hE := expect_any rd rdl rdp false d disp false j mind w6
  simp only [Bool.false_eq_true, if_false] at hE
  generalize distOf (halfOf rdl 0 mind) rdp disp 0 = X at *
  go_wp2_with fail
  refine hE.mono ?_
  rintro e w7 ⟨rfl, rfl⟩
  clear hE
  go_wp2
  go_ret
  exact ⟨rfl, B6.out⟩

theorem lawC_walk (a0 : Bool) (rd rdl rdp : Int) (a4 : Bool) (d disp : Int) (a7 : Bool) (j off mind : Int) (w : World) :
    Calls Yba.prog 4 #[.bool a0, .int .i64 rd, .int .i64 rdl, .int .i64 rdp, .bool a4, .int .i64 d, .int .i64 disp, .bool a7, .int .i64 j, .int .i64 off, .int .i64 mind] w fun e w' => e = .returned (.bool true) ∧ Below w.heap.size w w' := by
  cases a0 <;> cases a4 <;> cases a7
  · exact lawC_nnn rd rdl rdp d disp j off mind w
  · exact lawC_nny rd rdl rdp d disp j off mind w
  · exact lawC_nyn rd rdl rdp d disp j off mind w
  · exact lawC_nyy rd rdl rdp d disp j off mind w
  · exact lawC_ynn rd rdl rdp d disp j off mind w
  · exact lawC_yny rd rdl rdp d disp j off mind w
  · exact lawC_yyn rd rdl rdp d disp j off mind w
  · exact lawC_yyy rd rdl rdp d disp j off mind w
end Go.Proofs.Ybulkejws
