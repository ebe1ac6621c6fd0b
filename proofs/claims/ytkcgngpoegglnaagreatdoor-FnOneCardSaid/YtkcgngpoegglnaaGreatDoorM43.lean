/- The reference: the text of a directive, one theorem each (printed by gen_spf.py). -/
import Derived.Test.YtkcgngpoegglnaaGreatDoorM42
namespace Go.Proofs.YtkcgngpoegglnaaGreatDoor
open Go Go.RowKit
set_option linter.unusedVariables false
set_option linter.unusedSimpArgs false

theorem iyT_bd {T : STime} (hR : RightT T) : 1 ≤ iyT T ∧ iyT T ≤ 9999 := by
  obtain ⟨b1, b2, b3⟩ := abs_day T.y T.m T.d hR.m0 hR.m1 hR.d0 hR.d1
  exact isoY_bd T.y _ hR.y0 hR.y1 b2 b3
theorem ydT_bd {T : STime} (hR : RightT T) : 1 ≤ ydT T ∧ ydT T ≤ 366 := by
  obtain ⟨b1, b2, b3⟩ := abs_day T.y T.m T.d hR.m0 hR.m1 hR.d0 hR.d1
  have := lpY_bd T.y
  unfold ydT; omega
theorem wdT_bd (T : STime) : 0 ≤ wdT T ∧ wdT T ≤ 6 := by unfold wdT wdF; omega
theorem weeksF_bd (y : Int) : 52 ≤ weeksF y ∧ weeksF y ≤ 53 := by unfold weeksF; split <;> omega
theorem iwT_bd (T : STime) : 1 ≤ iwT T ∧ iwT T ≤ 53 := by
  have a := weeksF_bd T.y
  have b := weeksF_bd (T.y - 1)
  unfold iwT isoW
  split
  · omega
  · split <;> omega

/-- the end of the call that writes a directive. -/
def OnePost (w : World) (x : List UInt8) (e : Ending) (w' : World) : Prop := e = .returned (.tuple #[.string (bs x), .bool true]) ∧ Below w.heap.size w w'

set_option maxRecDepth 100000 in
set_option maxHeartbeats 4000000 in
theorem one_67 (T : STime) (hR : RightT T) (w : World) : Calls Tryz.prog 13 #[.int .u8 67, .agg (timeCells T)] w (OnePost w (d2 (T.y / 100))) := by
  have HI := fun w => iso_sp T hR w
  have HY := fun w => yearDay_sp T hR w
  have HWd := fun w => weekDay_sp T hR w
  have HTw := fun w => twelve_sp T hR w
  have HHf := fun w => half_sp T hR w
  have HOf := fun w => offset_sp T.off w hR.o0 hR.o1
  have iyb := iyT_bd hR
  have ydb := ydT_bd hR
  have wdb := wdT_bd T
  have iwb := iwT_bd T
  have hy0 := hR.y0
  have hy1 := hR.y1
  have hm0 := hR.m0
  have hm1 := hR.m1
  have hd0 := hR.d0
  have hd1 := hR.dd
  have hh0 := hR.h0
  have hh1 := hR.h1
  have hn0 := hR.n0
  have hn1 := hR.n1
  have hs0 := hR.s0
  have hs1 := hR.s1
  have hbx : Below w.heap.size w (w.alloc (.cells (timeCells T) 25)) := (Below.refl _ _).alloc (Nat.le_refl _) _
  have TB := Lib.hid (TimeBox.new w T)
  have BX := Lib.hid hbx
  obtain ⟨g0, g1, g2, g3, g4, g5, g6, g7, g8⟩ := (TimeBox.new w T).cells
  clear hbx
  unfold timeCells at *
  generalize iyT T = iy at *
  generalize iwT T = iw at *
  generalize ydT T = yd at *
  generalize wdT T = wd at *
  have e1 : Int.tdiv T.y 100 = T.y / 100 := Int.tdiv_eq_ediv_of_nonneg (by omega)
  have yb : 0 ≤ T.y / 100 ∧ T.y / 100 ≤ 99 := by omega
  have P1 := fun w => p2_any (T.y / 100) w (by omega) (by omega)
  unfold StrPost at *
  skip
  go_enter Tryz.func13, Tryz.ntmps13
  go_wp2_with (first | (go_at_call 21; refine (HI _).mono ?_; rintro e w1 ⟨rfl, hb1⟩; have TC := Lib.hid (TB.out.keep hb1); have BC := Lib.hid (BX.out.trans (hb1.mono BX.out.size)); obtain ⟨q0, q1, q2, q3, q4, q5, q6, q7, q8⟩ := TC.out.cells; clear hb1) | (go_at_call 25; with_reducible refine (P1 _).mono ?_; rintro e wa ⟨rfl, hba⟩; have TC := Lib.hid (TC.out.keep hba); have BC := Lib.hid (BC.out.trans (hba.mono BC.out.size)); obtain ⟨r0, r1, r2, r3, r4, r5, r6, r7, r8⟩ := TC.out.cells; clear hba))
  go_ret2
  exact ⟨rfl, BC.out⟩

set_option maxRecDepth 100000 in
set_option maxHeartbeats 4000000 in
theorem one_100 (T : STime) (hR : RightT T) (w : World) : Calls Tryz.prog 13 #[.int .u8 100, .agg (timeCells T)] w (OnePost w (d2 T.d)) := by
  have HI := fun w => iso_sp T hR w
  have HY := fun w => yearDay_sp T hR w
  have HWd := fun w => weekDay_sp T hR w
  have HTw := fun w => twelve_sp T hR w
  have HHf := fun w => half_sp T hR w
  have HOf := fun w => offset_sp T.off w hR.o0 hR.o1
  have iyb := iyT_bd hR
  have ydb := ydT_bd hR
  have wdb := wdT_bd T
  have iwb := iwT_bd T
  have hy0 := hR.y0
  have hy1 := hR.y1
  have hm0 := hR.m0
  have hm1 := hR.m1
  have hd0 := hR.d0
  have hd1 := hR.dd
  have hh0 := hR.h0
  have hh1 := hR.h1
  have hn0 := hR.n0
  have hn1 := hR.n1
  have hs0 := hR.s0
  have hs1 := hR.s1
  have hbx : Below w.heap.size w (w.alloc (.cells (timeCells T) 25)) := (Below.refl _ _).alloc (Nat.le_refl _) _
  have TB := Lib.hid (TimeBox.new w T)
  have BX := Lib.hid hbx
  obtain ⟨g0, g1, g2, g3, g4, g5, g6, g7, g8⟩ := (TimeBox.new w T).cells
  clear hbx
  unfold timeCells at *
  generalize iyT T = iy at *
  generalize iwT T = iw at *
  generalize ydT T = yd at *
  generalize wdT T = wd at *
  have P1 := fun w => p2_any T.d w (by omega) (by omega)
  unfold StrPost at *
  skip
  go_enter Tryz.func13, Tryz.ntmps13
  go_wp2_with (first | (go_at_call 21; refine (HI _).mono ?_; rintro e w1 ⟨rfl, hb1⟩; have TC := Lib.hid (TB.out.keep hb1); have BC := Lib.hid (BX.out.trans (hb1.mono BX.out.size)); obtain ⟨q0, q1, q2, q3, q4, q5, q6, q7, q8⟩ := TC.out.cells; clear hb1) | (go_at_call 25; with_reducible refine (P1 _).mono ?_; rintro e wa ⟨rfl, hba⟩; have TC := Lib.hid (TC.out.keep hba); have BC := Lib.hid (BC.out.trans (hba.mono BC.out.size)); obtain ⟨r0, r1, r2, r3, r4, r5, r6, r7, r8⟩ := TC.out.cells; clear hba))
  go_ret2
  exact ⟨rfl, BC.out⟩

set_option maxRecDepth 100000 in
set_option maxHeartbeats 4000000 in
theorem one_101 (T : STime) (hR : RightT T) (w : World) : Calls Tryz.prog 13 #[.int .u8 101, .agg (timeCells T)] w (OnePost w (b2 T.d)) := by
  have HI := fun w => iso_sp T hR w
  have HY := fun w => yearDay_sp T hR w
  have HWd := fun w => weekDay_sp T hR w
  have HTw := fun w => twelve_sp T hR w
  have HHf := fun w => half_sp T hR w
  have HOf := fun w => offset_sp T.off w hR.o0 hR.o1
  have iyb := iyT_bd hR
  have ydb := ydT_bd hR
  have wdb := wdT_bd T
  have iwb := iwT_bd T
  have hy0 := hR.y0
  have hy1 := hR.y1
  have hm0 := hR.m0
  have hm1 := hR.m1
  have hd0 := hR.d0
  have hd1 := hR.dd
  have hh0 := hR.h0
  have hh1 := hR.h1
  have hn0 := hR.n0
  have hn1 := hR.n1
  have hs0 := hR.s0
  have hs1 := hR.s1
  have hbx : Below w.heap.size w (w.alloc (.cells (timeCells T) 25)) := (Below.refl _ _).alloc (Nat.le_refl _) _
  have TB := Lib.hid (TimeBox.new w T)
  have BX := Lib.hid hbx
  obtain ⟨g0, g1, g2, g3, g4, g5, g6, g7, g8⟩ := (TimeBox.new w T).cells
  clear hbx
  unfold timeCells at *
  generalize iyT T = iy at *
  generalize iwT T = iw at *
  generalize ydT T = yd at *
  generalize wdT T = wd at *
  have P1 := fun w => p2b_any T.d w (by omega) (by omega)
  unfold StrPost at *
  skip
  go_enter Tryz.func13, Tryz.ntmps13
  go_wp2_with (first | (go_at_call 21; refine (HI _).mono ?_; rintro e w1 ⟨rfl, hb1⟩; have TC := Lib.hid (TB.out.keep hb1); have BC := Lib.hid (BX.out.trans (hb1.mono BX.out.size)); obtain ⟨q0, q1, q2, q3, q4, q5, q6, q7, q8⟩ := TC.out.cells; clear hb1) | (go_at_call 25; with_reducible refine (P1 _).mono ?_; rintro e wa ⟨rfl, hba⟩; have TC := Lib.hid (TC.out.keep hba); have BC := Lib.hid (BC.out.trans (hba.mono BC.out.size)); obtain ⟨r0, r1, r2, r3, r4, r5, r6, r7, r8⟩ := TC.out.cells; clear hba))
  go_ret2
  exact ⟨rfl, BC.out⟩

set_option maxRecDepth 100000 in
set_option maxHeartbeats 4000000 in
theorem one_103 (T : STime) (hR : RightT T) (w : World) : Calls Tryz.prog 13 #[.int .u8 103, .agg (timeCells T)] w (OnePost w (d2 (iyT T % 100))) := by
  have HI := fun w => iso_sp T hR w
  have HY := fun w => yearDay_sp T hR w
  have HWd := fun w => weekDay_sp T hR w
  have HTw := fun w => twelve_sp T hR w
  have HHf := fun w => half_sp T hR w
  have HOf := fun w => offset_sp T.off w hR.o0 hR.o1
  have iyb := iyT_bd hR
  have ydb := ydT_bd hR
  have wdb := wdT_bd T
  have iwb := iwT_bd T
  have hy0 := hR.y0
  have hy1 := hR.y1
  have hm0 := hR.m0
  have hm1 := hR.m1
  have hd0 := hR.d0
  have hd1 := hR.dd
  have hh0 := hR.h0
  have hh1 := hR.h1
  have hn0 := hR.n0
  have hn1 := hR.n1
  have hs0 := hR.s0
  have hs1 := hR.s1
  have hbx : Below w.heap.size w (w.alloc (.cells (timeCells T) 25)) := (Below.refl _ _).alloc (Nat.le_refl _) _
  have TB := Lib.hid (TimeBox.new w T)
  have BX := Lib.hid hbx
  obtain ⟨g0, g1, g2, g3, g4, g5, g6, g7, g8⟩ := (TimeBox.new w T).cells
  clear hbx
  unfold timeCells at *
  generalize iyT T = iy at *
  generalize iwT T = iw at *
  generalize ydT T = yd at *
  generalize wdT T = wd at *
  have e1 : Int.tmod iy 100 = iy % 100 := Int.tmod_eq_emod_of_nonneg (by omega)
  have yb : 0 ≤ iy % 100 ∧ iy % 100 ≤ 99 := by omega
  have P1 := fun w => p2_any (iy % 100) w (by omega) (by omega)
  unfold StrPost at *
  skip
  go_enter Tryz.func13, Tryz.ntmps13
  go_wp2_with (first | (go_at_call 21; refine (HI _).mono ?_; rintro e w1 ⟨rfl, hb1⟩; have TC := Lib.hid (TB.out.keep hb1); have BC := Lib.hid (BX.out.trans (hb1.mono BX.out.size)); obtain ⟨q0, q1, q2, q3, q4, q5, q6, q7, q8⟩ := TC.out.cells; clear hb1) | (go_at_call 25; with_reducible refine (P1 _).mono ?_; rintro e wa ⟨rfl, hba⟩; have TC := Lib.hid (TC.out.keep hba); have BC := Lib.hid (BC.out.trans (hba.mono BC.out.size)); obtain ⟨r0, r1, r2, r3, r4, r5, r6, r7, r8⟩ := TC.out.cells; clear hba))
  go_ret2
  exact ⟨rfl, BC.out⟩

set_option maxRecDepth 100000 in
set_option maxHeartbeats 4000000 in
theorem one_71 (T : STime) (hR : RightT T) (w : World) : Calls Tryz.prog 13 #[.int .u8 71, .agg (timeCells T)] w (OnePost w (d4 (iyT T))) := by
  have HI := fun w => iso_sp T hR w
  have HY := fun w => yearDay_sp T hR w
  have HWd := fun w => weekDay_sp T hR w
  have HTw := fun w => twelve_sp T hR w
  have HHf := fun w => half_sp T hR w
  have HOf := fun w => offset_sp T.off w hR.o0 hR.o1
  have iyb := iyT_bd hR
  have ydb := ydT_bd hR
  have wdb := wdT_bd T
  have iwb := iwT_bd T
  have hy0 := hR.y0
  have hy1 := hR.y1
  have hm0 := hR.m0
  have hm1 := hR.m1
  have hd0 := hR.d0
  have hd1 := hR.dd
  have hh0 := hR.h0
  have hh1 := hR.h1
  have hn0 := hR.n0
  have hn1 := hR.n1
  have hs0 := hR.s0
  have hs1 := hR.s1
  have hbx : Below w.heap.size w (w.alloc (.cells (timeCells T) 25)) := (Below.refl _ _).alloc (Nat.le_refl _) _
  have TB := Lib.hid (TimeBox.new w T)
  have BX := Lib.hid hbx
  obtain ⟨g0, g1, g2, g3, g4, g5, g6, g7, g8⟩ := (TimeBox.new w T).cells
  clear hbx
  unfold timeCells at *
  generalize iyT T = iy at *
  generalize iwT T = iw at *
  generalize ydT T = yd at *
  generalize wdT T = wd at *
  have P1 := fun w => p4_any iy w (by omega) (by omega)
  unfold StrPost at *
  skip
  go_enter Tryz.func13, Tryz.ntmps13
  go_wp2_with (first | (go_at_call 21; refine (HI _).mono ?_; rintro e w1 ⟨rfl, hb1⟩; have TC := Lib.hid (TB.out.keep hb1); have BC := Lib.hid (BX.out.trans (hb1.mono BX.out.size)); obtain ⟨q0, q1, q2, q3, q4, q5, q6, q7, q8⟩ := TC.out.cells; clear hb1) | (go_at_call 25; with_reducible refine (P1 _).mono ?_; rintro e wa ⟨rfl, hba⟩; have TC := Lib.hid (TC.out.keep hba); have BC := Lib.hid (BC.out.trans (hba.mono BC.out.size)); obtain ⟨r0, r1, r2, r3, r4, r5, r6, r7, r8⟩ := TC.out.cells; clear hba))
  go_ret2
  exact ⟨rfl, BC.out⟩

set_option maxRecDepth 100000 in
set_option maxHeartbeats 4000000 in
theorem one_72 (T : STime) (hR : RightT T) (w : World) : Calls Tryz.prog 13 #[.int .u8 72, .agg (timeCells T)] w (OnePost w (d2 T.hh)) := by
  have HI := fun w => iso_sp T hR w
  have HY := fun w => yearDay_sp T hR w
  have HWd := fun w => weekDay_sp T hR w
  have HTw := fun w => twelve_sp T hR w
  have HHf := fun w => half_sp T hR w
  have HOf := fun w => offset_sp T.off w hR.o0 hR.o1
  have iyb := iyT_bd hR
  have ydb := ydT_bd hR
  have wdb := wdT_bd T
  have iwb := iwT_bd T
  have hy0 := hR.y0
  have hy1 := hR.y1
  have hm0 := hR.m0
  have hm1 := hR.m1
  have hd0 := hR.d0
  have hd1 := hR.dd
  have hh0 := hR.h0
  have hh1 := hR.h1
  have hn0 := hR.n0
  have hn1 := hR.n1
  have hs0 := hR.s0
  have hs1 := hR.s1
  have hbx : Below w.heap.size w (w.alloc (.cells (timeCells T) 25)) := (Below.refl _ _).alloc (Nat.le_refl _) _
  have TB := Lib.hid (TimeBox.new w T)
  have BX := Lib.hid hbx
  obtain ⟨g0, g1, g2, g3, g4, g5, g6, g7, g8⟩ := (TimeBox.new w T).cells
  clear hbx
  unfold timeCells at *
  generalize iyT T = iy at *
  generalize iwT T = iw at *
  generalize ydT T = yd at *
  generalize wdT T = wd at *
  have P1 := fun w => p2_any T.hh w (by omega) (by omega)
  unfold StrPost at *
  skip
  go_enter Tryz.func13, Tryz.ntmps13
  go_wp2_with (first | (go_at_call 21; refine (HI _).mono ?_; rintro e w1 ⟨rfl, hb1⟩; have TC := Lib.hid (TB.out.keep hb1); have BC := Lib.hid (BX.out.trans (hb1.mono BX.out.size)); obtain ⟨q0, q1, q2, q3, q4, q5, q6, q7, q8⟩ := TC.out.cells; clear hb1) | (go_at_call 25; with_reducible refine (P1 _).mono ?_; rintro e wa ⟨rfl, hba⟩; have TC := Lib.hid (TC.out.keep hba); have BC := Lib.hid (BC.out.trans (hba.mono BC.out.size)); obtain ⟨r0, r1, r2, r3, r4, r5, r6, r7, r8⟩ := TC.out.cells; clear hba))
  go_ret2
  exact ⟨rfl, BC.out⟩

set_option maxRecDepth 100000 in
set_option maxHeartbeats 4000000 in
theorem one_73 (T : STime) (hR : RightT T) (w : World) : Calls Tryz.prog 13 #[.int .u8 73, .agg (timeCells T)] w (OnePost w (d2 ((T.hh + 11) % 12 + 1))) := by
  have HI := fun w => iso_sp T hR w
  have HY := fun w => yearDay_sp T hR w
  have HWd := fun w => weekDay_sp T hR w
  have HTw := fun w => twelve_sp T hR w
  have HHf := fun w => half_sp T hR w
  have HOf := fun w => offset_sp T.off w hR.o0 hR.o1
  have iyb := iyT_bd hR
  have ydb := ydT_bd hR
  have wdb := wdT_bd T
  have iwb := iwT_bd T
  have hy0 := hR.y0
  have hy1 := hR.y1
  have hm0 := hR.m0
  have hm1 := hR.m1
  have hd0 := hR.d0
  have hd1 := hR.dd
  have hh0 := hR.h0
  have hh1 := hR.h1
  have hn0 := hR.n0
  have hn1 := hR.n1
  have hs0 := hR.s0
  have hs1 := hR.s1
  have hbx : Below w.heap.size w (w.alloc (.cells (timeCells T) 25)) := (Below.refl _ _).alloc (Nat.le_refl _) _
  have TB := Lib.hid (TimeBox.new w T)
  have BX := Lib.hid hbx
  obtain ⟨g0, g1, g2, g3, g4, g5, g6, g7, g8⟩ := (TimeBox.new w T).cells
  clear hbx
  unfold timeCells at *
  generalize iyT T = iy at *
  generalize iwT T = iw at *
  generalize ydT T = yd at *
  generalize wdT T = wd at *
  have P1 := fun w => p2_any ((T.hh + 11) % 12 + 1) w (by omega) (by omega)
  unfold StrPost at *
  skip
  go_enter Tryz.func13, Tryz.ntmps13
  go_wp2_with (first | (go_at_call 21; refine (HI _).mono ?_; rintro e w1 ⟨rfl, hb1⟩; have TC := Lib.hid (TB.out.keep hb1); have BC := Lib.hid (BX.out.trans (hb1.mono BX.out.size)); obtain ⟨q0, q1, q2, q3, q4, q5, q6, q7, q8⟩ := TC.out.cells; clear hb1) | (go_at_call 26; with_reducible refine (HTw _).mono ?_; rintro e wa ⟨rfl, hba⟩; have TC := Lib.hid (TC.out.keep hba); have BC := Lib.hid (BC.out.trans (hba.mono BC.out.size)); obtain ⟨r0, r1, r2, r3, r4, r5, r6, r7, r8⟩ := TC.out.cells; clear hba) | (go_at_call 25; with_reducible refine (P1 _).mono ?_; rintro e wa ⟨rfl, hba⟩; have TC := Lib.hid (TC.out.keep hba); have BC := Lib.hid (BC.out.trans (hba.mono BC.out.size)); obtain ⟨r0, r1, r2, r3, r4, r5, r6, r7, r8⟩ := TC.out.cells; clear hba))
  go_ret2
  exact ⟨rfl, BC.out⟩

set_option maxRecDepth 100000 in
set_option maxHeartbeats 4000000 in
theorem one_106 (T : STime) (hR : RightT T) (w : World) : Calls Tryz.prog 13 #[.int .u8 106, .agg (timeCells T)] w (OnePost w (d3 (ydT T))) := by
  have HI := fun w => iso_sp T hR w
  have HY := fun w => yearDay_sp T hR w
  have HWd := fun w => weekDay_sp T hR w
  have HTw := fun w => twelve_sp T hR w
  have HHf := fun w => half_sp T hR w
  have HOf := fun w => offset_sp T.off w hR.o0 hR.o1
  have iyb := iyT_bd hR
  have ydb := ydT_bd hR
  have wdb := wdT_bd T
  have iwb := iwT_bd T
  have hy0 := hR.y0
  have hy1 := hR.y1
  have hm0 := hR.m0
  have hm1 := hR.m1
  have hd0 := hR.d0
  have hd1 := hR.dd
  have hh0 := hR.h0
  have hh1 := hR.h1
  have hn0 := hR.n0
  have hn1 := hR.n1
  have hs0 := hR.s0
  have hs1 := hR.s1
  have hbx : Below w.heap.size w (w.alloc (.cells (timeCells T) 25)) := (Below.refl _ _).alloc (Nat.le_refl _) _
  have TB := Lib.hid (TimeBox.new w T)
  have BX := Lib.hid hbx
  obtain ⟨g0, g1, g2, g3, g4, g5, g6, g7, g8⟩ := (TimeBox.new w T).cells
  clear hbx
  unfold timeCells at *
  generalize iyT T = iy at *
  generalize iwT T = iw at *
  generalize ydT T = yd at *
  generalize wdT T = wd at *
  have P1 := fun w => p3_any yd w (by omega) (by omega)
  unfold StrPost at *
  skip
  go_enter Tryz.func13, Tryz.ntmps13
  go_wp2_with (first | (go_at_call 21; refine (HI _).mono ?_; rintro e w1 ⟨rfl, hb1⟩; have TC := Lib.hid (TB.out.keep hb1); have BC := Lib.hid (BX.out.trans (hb1.mono BX.out.size)); obtain ⟨q0, q1, q2, q3, q4, q5, q6, q7, q8⟩ := TC.out.cells; clear hb1) | (go_at_call 27; with_reducible refine (HY _).mono ?_; rintro e wa ⟨rfl, hba⟩; have TC := Lib.hid (TC.out.keep hba); have BC := Lib.hid (BC.out.trans (hba.mono BC.out.size)); obtain ⟨r0, r1, r2, r3, r4, r5, r6, r7, r8⟩ := TC.out.cells; clear hba) | (go_at_call 25; with_reducible refine (P1 _).mono ?_; rintro e wa ⟨rfl, hba⟩; have TC := Lib.hid (TC.out.keep hba); have BC := Lib.hid (BC.out.trans (hba.mono BC.out.size)); obtain ⟨r0, r1, r2, r3, r4, r5, r6, r7, r8⟩ := TC.out.cells; clear hba))
  go_ret2
  exact ⟨rfl, BC.out⟩

set_option maxRecDepth 100000 in
set_option maxHeartbeats 4000000 in
theorem one_109 (T : STime) (hR : RightT T) (w : World) : Calls Tryz.prog 13 #[.int .u8 109, .agg (timeCells T)] w (OnePost w (d2 T.m)) := by
  have HI := fun w => iso_sp T hR w
  have HY := fun w => yearDay_sp T hR w
  have HWd := fun w => weekDay_sp T hR w
  have HTw := fun w => twelve_sp T hR w
  have HHf := fun w => half_sp T hR w
  have HOf := fun w => offset_sp T.off w hR.o0 hR.o1
  have iyb := iyT_bd hR
  have ydb := ydT_bd hR
  have wdb := wdT_bd T
  have iwb := iwT_bd T
  have hy0 := hR.y0
  have hy1 := hR.y1
  have hm0 := hR.m0
  have hm1 := hR.m1
  have hd0 := hR.d0
  have hd1 := hR.dd
  have hh0 := hR.h0
  have hh1 := hR.h1
  have hn0 := hR.n0
  have hn1 := hR.n1
  have hs0 := hR.s0
  have hs1 := hR.s1
  have hbx : Below w.heap.size w (w.alloc (.cells (timeCells T) 25)) := (Below.refl _ _).alloc (Nat.le_refl _) _
  have TB := Lib.hid (TimeBox.new w T)
  have BX := Lib.hid hbx
  obtain ⟨g0, g1, g2, g3, g4, g5, g6, g7, g8⟩ := (TimeBox.new w T).cells
  clear hbx
  unfold timeCells at *
  generalize iyT T = iy at *
  generalize iwT T = iw at *
  generalize ydT T = yd at *
  generalize wdT T = wd at *
  have P1 := fun w => p2_any T.m w (by omega) (by omega)
  unfold StrPost at *
  skip
  go_enter Tryz.func13, Tryz.ntmps13
  go_wp2_with (first | (go_at_call 21; refine (HI _).mono ?_; rintro e w1 ⟨rfl, hb1⟩; have TC := Lib.hid (TB.out.keep hb1); have BC := Lib.hid (BX.out.trans (hb1.mono BX.out.size)); obtain ⟨q0, q1, q2, q3, q4, q5, q6, q7, q8⟩ := TC.out.cells; clear hb1) | (go_at_call 25; with_reducible refine (P1 _).mono ?_; rintro e wa ⟨rfl, hba⟩; have TC := Lib.hid (TC.out.keep hba); have BC := Lib.hid (BC.out.trans (hba.mono BC.out.size)); obtain ⟨r0, r1, r2, r3, r4, r5, r6, r7, r8⟩ := TC.out.cells; clear hba))
  go_ret2
  exact ⟨rfl, BC.out⟩

set_option maxRecDepth 100000 in
set_option maxHeartbeats 4000000 in
theorem one_77 (T : STime) (hR : RightT T) (w : World) : Calls Tryz.prog 13 #[.int .u8 77, .agg (timeCells T)] w (OnePost w (d2 T.mm)) := by
  have HI := fun w => iso_sp T hR w
  have HY := fun w => yearDay_sp T hR w
  have HWd := fun w => weekDay_sp T hR w
  have HTw := fun w => twelve_sp T hR w
  have HHf := fun w => half_sp T hR w
  have HOf := fun w => offset_sp T.off w hR.o0 hR.o1
  have iyb := iyT_bd hR
  have ydb := ydT_bd hR
  have wdb := wdT_bd T
  have iwb := iwT_bd T
  have hy0 := hR.y0
  have hy1 := hR.y1
  have hm0 := hR.m0
  have hm1 := hR.m1
  have hd0 := hR.d0
  have hd1 := hR.dd
  have hh0 := hR.h0
  have hh1 := hR.h1
  have hn0 := hR.n0
  have hn1 := hR.n1
  have hs0 := hR.s0
  have hs1 := hR.s1
  have hbx : Below w.heap.size w (w.alloc (.cells (timeCells T) 25)) := (Below.refl _ _).alloc (Nat.le_refl _) _
  have TB := Lib.hid (TimeBox.new w T)
  have BX := Lib.hid hbx
  obtain ⟨g0, g1, g2, g3, g4, g5, g6, g7, g8⟩ := (TimeBox.new w T).cells
  clear hbx
  unfold timeCells at *
  generalize iyT T = iy at *
  generalize iwT T = iw at *
  generalize ydT T = yd at *
  generalize wdT T = wd at *
  have P1 := fun w => p2_any T.mm w (by omega) (by omega)
  unfold StrPost at *
  skip
  go_enter Tryz.func13, Tryz.ntmps13
  go_wp2_with (first | (go_at_call 21; refine (HI _).mono ?_; rintro e w1 ⟨rfl, hb1⟩; have TC := Lib.hid (TB.out.keep hb1); have BC := Lib.hid (BX.out.trans (hb1.mono BX.out.size)); obtain ⟨q0, q1, q2, q3, q4, q5, q6, q7, q8⟩ := TC.out.cells; clear hb1) | (go_at_call 25; with_reducible refine (P1 _).mono ?_; rintro e wa ⟨rfl, hba⟩; have TC := Lib.hid (TC.out.keep hba); have BC := Lib.hid (BC.out.trans (hba.mono BC.out.size)); obtain ⟨r0, r1, r2, r3, r4, r5, r6, r7, r8⟩ := TC.out.cells; clear hba))
  go_ret2
  exact ⟨rfl, BC.out⟩

set_option maxRecDepth 100000 in
set_option maxHeartbeats 4000000 in
theorem one_110 (T : STime) (hR : RightT T) (w : World) : Calls Tryz.prog 13 #[.int .u8 110, .agg (timeCells T)] w (OnePost w ([10])) := by
  have HI := fun w => iso_sp T hR w
  have HY := fun w => yearDay_sp T hR w
  have HWd := fun w => weekDay_sp T hR w
  have HTw := fun w => twelve_sp T hR w
  have HHf := fun w => half_sp T hR w
  have HOf := fun w => offset_sp T.off w hR.o0 hR.o1
  have iyb := iyT_bd hR
  have ydb := ydT_bd hR
  have wdb := wdT_bd T
  have iwb := iwT_bd T
  have hy0 := hR.y0
  have hy1 := hR.y1
  have hm0 := hR.m0
  have hm1 := hR.m1
  have hd0 := hR.d0
  have hd1 := hR.dd
  have hh0 := hR.h0
  have hh1 := hR.h1
  have hn0 := hR.n0
  have hn1 := hR.n1
  have hs0 := hR.s0
  have hs1 := hR.s1
  have hbx : Below w.heap.size w (w.alloc (.cells (timeCells T) 25)) := (Below.refl _ _).alloc (Nat.le_refl _) _
  have TB := Lib.hid (TimeBox.new w T)
  have BX := Lib.hid hbx
  obtain ⟨g0, g1, g2, g3, g4, g5, g6, g7, g8⟩ := (TimeBox.new w T).cells
  clear hbx
  unfold timeCells at *
  generalize iyT T = iy at *
  generalize iwT T = iw at *
  generalize ydT T = yd at *
  generalize wdT T = wd at *
  unfold StrPost at *
  skip
  go_enter Tryz.func13, Tryz.ntmps13
  go_wp2_with (first | (go_at_call 21; refine (HI _).mono ?_; rintro e w1 ⟨rfl, hb1⟩; have TC := Lib.hid (TB.out.keep hb1); have BC := Lib.hid (BX.out.trans (hb1.mono BX.out.size)); obtain ⟨q0, q1, q2, q3, q4, q5, q6, q7, q8⟩ := TC.out.cells; clear hb1))
  go_ret2
  exact ⟨rfl, BC.out⟩

set_option maxRecDepth 100000 in
set_option maxHeartbeats 4000000 in
theorem one_112 (T : STime) (hR : RightT T) (w : World) : Calls Tryz.prog 13 #[.int .u8 112, .agg (timeCells T)] w (OnePost w (if T.hh < 12 then [65, 77] else [80, 77])) := by
  have HI := fun w => iso_sp T hR w
  have HY := fun w => yearDay_sp T hR w
  have HWd := fun w => weekDay_sp T hR w
  have HTw := fun w => twelve_sp T hR w
  have HHf := fun w => half_sp T hR w
  have HOf := fun w => offset_sp T.off w hR.o0 hR.o1
  have iyb := iyT_bd hR
  have ydb := ydT_bd hR
  have wdb := wdT_bd T
  have iwb := iwT_bd T
  have hy0 := hR.y0
  have hy1 := hR.y1
  have hm0 := hR.m0
  have hm1 := hR.m1
  have hd0 := hR.d0
  have hd1 := hR.dd
  have hh0 := hR.h0
  have hh1 := hR.h1
  have hn0 := hR.n0
  have hn1 := hR.n1
  have hs0 := hR.s0
  have hs1 := hR.s1
  have hbx : Below w.heap.size w (w.alloc (.cells (timeCells T) 25)) := (Below.refl _ _).alloc (Nat.le_refl _) _
  have TB := Lib.hid (TimeBox.new w T)
  have BX := Lib.hid hbx
  obtain ⟨g0, g1, g2, g3, g4, g5, g6, g7, g8⟩ := (TimeBox.new w T).cells
  clear hbx
  unfold timeCells at *
  generalize iyT T = iy at *
  generalize iwT T = iw at *
  generalize ydT T = yd at *
  generalize wdT T = wd at *
  generalize (if T.hh < 12 then [65, 77] else [80, 77] : List UInt8) = hx at *
  unfold StrPost at *
  skip
  go_enter Tryz.func13, Tryz.ntmps13
  go_wp2_with (first | (go_at_call 21; refine (HI _).mono ?_; rintro e w1 ⟨rfl, hb1⟩; have TC := Lib.hid (TB.out.keep hb1); have BC := Lib.hid (BX.out.trans (hb1.mono BX.out.size)); obtain ⟨q0, q1, q2, q3, q4, q5, q6, q7, q8⟩ := TC.out.cells; clear hb1) | (go_at_call 28; with_reducible refine (HHf _).mono ?_; rintro e wa ⟨rfl, hba⟩; have TC := Lib.hid (TC.out.keep hba); have BC := Lib.hid (BC.out.trans (hba.mono BC.out.size)); obtain ⟨r0, r1, r2, r3, r4, r5, r6, r7, r8⟩ := TC.out.cells; clear hba))
  go_ret2
  exact ⟨rfl, BC.out⟩

set_option maxRecDepth 100000 in
set_option maxHeartbeats 4000000 in
theorem one_83 (T : STime) (hR : RightT T) (w : World) : Calls Tryz.prog 13 #[.int .u8 83, .agg (timeCells T)] w (OnePost w (d2 T.ss)) := by
  have HI := fun w => iso_sp T hR w
  have HY := fun w => yearDay_sp T hR w
  have HWd := fun w => weekDay_sp T hR w
  have HTw := fun w => twelve_sp T hR w
  have HHf := fun w => half_sp T hR w
  have HOf := fun w => offset_sp T.off w hR.o0 hR.o1
  have iyb := iyT_bd hR
  have ydb := ydT_bd hR
  have wdb := wdT_bd T
  have iwb := iwT_bd T
  have hy0 := hR.y0
  have hy1 := hR.y1
  have hm0 := hR.m0
  have hm1 := hR.m1
  have hd0 := hR.d0
  have hd1 := hR.dd
  have hh0 := hR.h0
  have hh1 := hR.h1
  have hn0 := hR.n0
  have hn1 := hR.n1
  have hs0 := hR.s0
  have hs1 := hR.s1
  have hbx : Below w.heap.size w (w.alloc (.cells (timeCells T) 25)) := (Below.refl _ _).alloc (Nat.le_refl _) _
  have TB := Lib.hid (TimeBox.new w T)
  have BX := Lib.hid hbx
  obtain ⟨g0, g1, g2, g3, g4, g5, g6, g7, g8⟩ := (TimeBox.new w T).cells
  clear hbx
  unfold timeCells at *
  generalize iyT T = iy at *
  generalize iwT T = iw at *
  generalize ydT T = yd at *
  generalize wdT T = wd at *
  have P1 := fun w => p2_any T.ss w (by omega) (by omega)
  unfold StrPost at *
  skip
  go_enter Tryz.func13, Tryz.ntmps13
  go_wp2_with (first | (go_at_call 21; refine (HI _).mono ?_; rintro e w1 ⟨rfl, hb1⟩; have TC := Lib.hid (TB.out.keep hb1); have BC := Lib.hid (BX.out.trans (hb1.mono BX.out.size)); obtain ⟨q0, q1, q2, q3, q4, q5, q6, q7, q8⟩ := TC.out.cells; clear hb1) | (go_at_call 25; with_reducible refine (P1 _).mono ?_; rintro e wa ⟨rfl, hba⟩; have TC := Lib.hid (TC.out.keep hba); have BC := Lib.hid (BC.out.trans (hba.mono BC.out.size)); obtain ⟨r0, r1, r2, r3, r4, r5, r6, r7, r8⟩ := TC.out.cells; clear hba))
  go_ret2
  exact ⟨rfl, BC.out⟩

set_option maxRecDepth 100000 in
set_option maxHeartbeats 4000000 in
theorem one_116 (T : STime) (hR : RightT T) (w : World) : Calls Tryz.prog 13 #[.int .u8 116, .agg (timeCells T)] w (OnePost w ([9])) := by
  have HI := fun w => iso_sp T hR w
  have HY := fun w => yearDay_sp T hR w
  have HWd := fun w => weekDay_sp T hR w
  have HTw := fun w => twelve_sp T hR w
  have HHf := fun w => half_sp T hR w
  have HOf := fun w => offset_sp T.off w hR.o0 hR.o1
  have iyb := iyT_bd hR
  have ydb := ydT_bd hR
  have wdb := wdT_bd T
  have iwb := iwT_bd T
  have hy0 := hR.y0
  have hy1 := hR.y1
  have hm0 := hR.m0
  have hm1 := hR.m1
  have hd0 := hR.d0
  have hd1 := hR.dd
  have hh0 := hR.h0
  have hh1 := hR.h1
  have hn0 := hR.n0
  have hn1 := hR.n1
  have hs0 := hR.s0
  have hs1 := hR.s1
  have hbx : Below w.heap.size w (w.alloc (.cells (timeCells T) 25)) := (Below.refl _ _).alloc (Nat.le_refl _) _
  have TB := Lib.hid (TimeBox.new w T)
  have BX := Lib.hid hbx
  obtain ⟨g0, g1, g2, g3, g4, g5, g6, g7, g8⟩ := (TimeBox.new w T).cells
  clear hbx
  unfold timeCells at *
  generalize iyT T = iy at *
  generalize iwT T = iw at *
  generalize ydT T = yd at *
  generalize wdT T = wd at *
  unfold StrPost at *
  skip
  go_enter Tryz.func13, Tryz.ntmps13
  go_wp2_with (first | (go_at_call 21; refine (HI _).mono ?_; rintro e w1 ⟨rfl, hb1⟩; have TC := Lib.hid (TB.out.keep hb1); have BC := Lib.hid (BX.out.trans (hb1.mono BX.out.size)); obtain ⟨q0, q1, q2, q3, q4, q5, q6, q7, q8⟩ := TC.out.cells; clear hb1))
  go_ret2
  exact ⟨rfl, BC.out⟩

set_option maxRecDepth 100000 in
set_option maxHeartbeats 4000000 in
theorem one_117 (T : STime) (hR : RightT T) (w : World) : Calls Tryz.prog 13 #[.int .u8 117, .agg (timeCells T)] w (OnePost w ([dg ((wdT T + 6) % 7 + 1)])) := by
  have HI := fun w => iso_sp T hR w
  have HY := fun w => yearDay_sp T hR w
  have HWd := fun w => weekDay_sp T hR w
  have HTw := fun w => twelve_sp T hR w
  have HHf := fun w => half_sp T hR w
  have HOf := fun w => offset_sp T.off w hR.o0 hR.o1
  have iyb := iyT_bd hR
  have ydb := ydT_bd hR
  have wdb := wdT_bd T
  have iwb := iwT_bd T
  have hy0 := hR.y0
  have hy1 := hR.y1
  have hm0 := hR.m0
  have hm1 := hR.m1
  have hd0 := hR.d0
  have hd1 := hR.dd
  have hh0 := hR.h0
  have hh1 := hR.h1
  have hn0 := hR.n0
  have hn1 := hR.n1
  have hs0 := hR.s0
  have hs1 := hR.s1
  have hbx : Below w.heap.size w (w.alloc (.cells (timeCells T) 25)) := (Below.refl _ _).alloc (Nat.le_refl _) _
  have TB := Lib.hid (TimeBox.new w T)
  have BX := Lib.hid hbx
  obtain ⟨g0, g1, g2, g3, g4, g5, g6, g7, g8⟩ := (TimeBox.new w T).cells
  clear hbx
  unfold timeCells at *
  generalize iyT T = iy at *
  generalize iwT T = iw at *
  generalize ydT T = yd at *
  generalize wdT T = wd at *
  have e1 : Int.tmod (wd + 6) 7 = (wd + 6) % 7 := Int.tmod_eq_emod_of_nonneg (by omega)
  have yb : 0 ≤ (wd + 6) % 7 ∧ (wd + 6) % 7 ≤ 6 := by omega
  have P1 := fun w => p1_any ((wd + 6) % 7 + 1) w (by omega) (by omega)
  unfold StrPost at *
  skip
  go_enter Tryz.func13, Tryz.ntmps13
  go_wp2_with (first | (go_at_call 21; refine (HI _).mono ?_; rintro e w1 ⟨rfl, hb1⟩; have TC := Lib.hid (TB.out.keep hb1); have BC := Lib.hid (BX.out.trans (hb1.mono BX.out.size)); obtain ⟨q0, q1, q2, q3, q4, q5, q6, q7, q8⟩ := TC.out.cells; clear hb1) | (go_at_call 23; with_reducible refine (HWd _).mono ?_; rintro e wa ⟨rfl, hba⟩; have TC := Lib.hid (TC.out.keep hba); have BC := Lib.hid (BC.out.trans (hba.mono BC.out.size)); obtain ⟨r0, r1, r2, r3, r4, r5, r6, r7, r8⟩ := TC.out.cells; clear hba) | (go_at_call 25; with_reducible refine (P1 _).mono ?_; rintro e wa ⟨rfl, hba⟩; have TC := Lib.hid (TC.out.keep hba); have BC := Lib.hid (BC.out.trans (hba.mono BC.out.size)); obtain ⟨r0, r1, r2, r3, r4, r5, r6, r7, r8⟩ := TC.out.cells; clear hba))
  go_ret2
  exact ⟨rfl, BC.out⟩

set_option maxRecDepth 100000 in
set_option maxHeartbeats 4000000 in
theorem one_86 (T : STime) (hR : RightT T) (w : World) : Calls Tryz.prog 13 #[.int .u8 86, .agg (timeCells T)] w (OnePost w (d2 (iwT T))) := by
  have HI := fun w => iso_sp T hR w
  have HY := fun w => yearDay_sp T hR w
  have HWd := fun w => weekDay_sp T hR w
  have HTw := fun w => twelve_sp T hR w
  have HHf := fun w => half_sp T hR w
  have HOf := fun w => offset_sp T.off w hR.o0 hR.o1
  have iyb := iyT_bd hR
  have ydb := ydT_bd hR
  have wdb := wdT_bd T
  have iwb := iwT_bd T
  have hy0 := hR.y0
  have hy1 := hR.y1
  have hm0 := hR.m0
  have hm1 := hR.m1
  have hd0 := hR.d0
  have hd1 := hR.dd
  have hh0 := hR.h0
  have hh1 := hR.h1
  have hn0 := hR.n0
  have hn1 := hR.n1
  have hs0 := hR.s0
  have hs1 := hR.s1
  have hbx : Below w.heap.size w (w.alloc (.cells (timeCells T) 25)) := (Below.refl _ _).alloc (Nat.le_refl _) _
  have TB := Lib.hid (TimeBox.new w T)
  have BX := Lib.hid hbx
  obtain ⟨g0, g1, g2, g3, g4, g5, g6, g7, g8⟩ := (TimeBox.new w T).cells
  clear hbx
  unfold timeCells at *
  generalize iyT T = iy at *
  generalize iwT T = iw at *
  generalize ydT T = yd at *
  generalize wdT T = wd at *
  have P1 := fun w => p2_any iw w (by omega) (by omega)
  unfold StrPost at *
  skip
  go_enter Tryz.func13, Tryz.ntmps13
  go_wp2_with (first | (go_at_call 21; refine (HI _).mono ?_; rintro e w1 ⟨rfl, hb1⟩; have TC := Lib.hid (TB.out.keep hb1); have BC := Lib.hid (BX.out.trans (hb1.mono BX.out.size)); obtain ⟨q0, q1, q2, q3, q4, q5, q6, q7, q8⟩ := TC.out.cells; clear hb1) | (go_at_call 25; with_reducible refine (P1 _).mono ?_; rintro e wa ⟨rfl, hba⟩; have TC := Lib.hid (TC.out.keep hba); have BC := Lib.hid (BC.out.trans (hba.mono BC.out.size)); obtain ⟨r0, r1, r2, r3, r4, r5, r6, r7, r8⟩ := TC.out.cells; clear hba))
  go_ret2
  exact ⟨rfl, BC.out⟩

set_option maxRecDepth 100000 in
set_option maxHeartbeats 4000000 in
theorem one_119 (T : STime) (hR : RightT T) (w : World) : Calls Tryz.prog 13 #[.int .u8 119, .agg (timeCells T)] w (OnePost w ([dg (wdT T)])) := by
  have HI := fun w => iso_sp T hR w
  have HY := fun w => yearDay_sp T hR w
  have HWd := fun w => weekDay_sp T hR w
  have HTw := fun w => twelve_sp T hR w
  have HHf := fun w => half_sp T hR w
  have HOf := fun w => offset_sp T.off w hR.o0 hR.o1
  have iyb := iyT_bd hR
  have ydb := ydT_bd hR
  have wdb := wdT_bd T
  have iwb := iwT_bd T
  have hy0 := hR.y0
  have hy1 := hR.y1
  have hm0 := hR.m0
  have hm1 := hR.m1
  have hd0 := hR.d0
  have hd1 := hR.dd
  have hh0 := hR.h0
  have hh1 := hR.h1
  have hn0 := hR.n0
  have hn1 := hR.n1
  have hs0 := hR.s0
  have hs1 := hR.s1
  have hbx : Below w.heap.size w (w.alloc (.cells (timeCells T) 25)) := (Below.refl _ _).alloc (Nat.le_refl _) _
  have TB := Lib.hid (TimeBox.new w T)
  have BX := Lib.hid hbx
  obtain ⟨g0, g1, g2, g3, g4, g5, g6, g7, g8⟩ := (TimeBox.new w T).cells
  clear hbx
  unfold timeCells at *
  generalize iyT T = iy at *
  generalize iwT T = iw at *
  generalize ydT T = yd at *
  generalize wdT T = wd at *
  have P1 := fun w => p1_any wd w (by omega) (by omega)
  unfold StrPost at *
  skip
  go_enter Tryz.func13, Tryz.ntmps13
  go_wp2_with (first | (go_at_call 21; refine (HI _).mono ?_; rintro e w1 ⟨rfl, hb1⟩; have TC := Lib.hid (TB.out.keep hb1); have BC := Lib.hid (BX.out.trans (hb1.mono BX.out.size)); obtain ⟨q0, q1, q2, q3, q4, q5, q6, q7, q8⟩ := TC.out.cells; clear hb1) | (go_at_call 23; with_reducible refine (HWd _).mono ?_; rintro e wa ⟨rfl, hba⟩; have TC := Lib.hid (TC.out.keep hba); have BC := Lib.hid (BC.out.trans (hba.mono BC.out.size)); obtain ⟨r0, r1, r2, r3, r4, r5, r6, r7, r8⟩ := TC.out.cells; clear hba) | (go_at_call 25; with_reducible refine (P1 _).mono ?_; rintro e wa ⟨rfl, hba⟩; have TC := Lib.hid (TC.out.keep hba); have BC := Lib.hid (BC.out.trans (hba.mono BC.out.size)); obtain ⟨r0, r1, r2, r3, r4, r5, r6, r7, r8⟩ := TC.out.cells; clear hba))
  go_ret2
  exact ⟨rfl, BC.out⟩

set_option maxRecDepth 100000 in
set_option maxHeartbeats 4000000 in
theorem one_121 (T : STime) (hR : RightT T) (w : World) : Calls Tryz.prog 13 #[.int .u8 121, .agg (timeCells T)] w (OnePost w (d2 (T.y % 100))) := by
  have HI := fun w => iso_sp T hR w
  have HY := fun w => yearDay_sp T hR w
  have HWd := fun w => weekDay_sp T hR w
  have HTw := fun w => twelve_sp T hR w
  have HHf := fun w => half_sp T hR w
  have HOf := fun w => offset_sp T.off w hR.o0 hR.o1
  have iyb := iyT_bd hR
  have ydb := ydT_bd hR
  have wdb := wdT_bd T
  have iwb := iwT_bd T
  have hy0 := hR.y0
  have hy1 := hR.y1
  have hm0 := hR.m0
  have hm1 := hR.m1
  have hd0 := hR.d0
  have hd1 := hR.dd
  have hh0 := hR.h0
  have hh1 := hR.h1
  have hn0 := hR.n0
  have hn1 := hR.n1
  have hs0 := hR.s0
  have hs1 := hR.s1
  have hbx : Below w.heap.size w (w.alloc (.cells (timeCells T) 25)) := (Below.refl _ _).alloc (Nat.le_refl _) _
  have TB := Lib.hid (TimeBox.new w T)
  have BX := Lib.hid hbx
  obtain ⟨g0, g1, g2, g3, g4, g5, g6, g7, g8⟩ := (TimeBox.new w T).cells
  clear hbx
  unfold timeCells at *
  generalize iyT T = iy at *
  generalize iwT T = iw at *
  generalize ydT T = yd at *
  generalize wdT T = wd at *
  have e1 : Int.tmod T.y 100 = T.y % 100 := Int.tmod_eq_emod_of_nonneg (by omega)
  have yb : 0 ≤ T.y % 100 ∧ T.y % 100 ≤ 99 := by omega
  have P1 := fun w => p2_any (T.y % 100) w (by omega) (by omega)
  unfold StrPost at *
  skip
  go_enter Tryz.func13, Tryz.ntmps13
  go_wp2_with (first | (go_at_call 21; refine (HI _).mono ?_; rintro e w1 ⟨rfl, hb1⟩; have TC := Lib.hid (TB.out.keep hb1); have BC := Lib.hid (BX.out.trans (hb1.mono BX.out.size)); obtain ⟨q0, q1, q2, q3, q4, q5, q6, q7, q8⟩ := TC.out.cells; clear hb1) | (go_at_call 25; with_reducible refine (P1 _).mono ?_; rintro e wa ⟨rfl, hba⟩; have TC := Lib.hid (TC.out.keep hba); have BC := Lib.hid (BC.out.trans (hba.mono BC.out.size)); obtain ⟨r0, r1, r2, r3, r4, r5, r6, r7, r8⟩ := TC.out.cells; clear hba))
  go_ret2
  exact ⟨rfl, BC.out⟩

set_option maxRecDepth 100000 in
set_option maxHeartbeats 4000000 in
theorem one_89 (T : STime) (hR : RightT T) (w : World) : Calls Tryz.prog 13 #[.int .u8 89, .agg (timeCells T)] w (OnePost w (d4 T.y)) := by
  have HI := fun w => iso_sp T hR w
  have HY := fun w => yearDay_sp T hR w
  have HWd := fun w => weekDay_sp T hR w
  have HTw := fun w => twelve_sp T hR w
  have HHf := fun w => half_sp T hR w
  have HOf := fun w => offset_sp T.off w hR.o0 hR.o1
  have iyb := iyT_bd hR
  have ydb := ydT_bd hR
  have wdb := wdT_bd T
  have iwb := iwT_bd T
  have hy0 := hR.y0
  have hy1 := hR.y1
  have hm0 := hR.m0
  have hm1 := hR.m1
  have hd0 := hR.d0
  have hd1 := hR.dd
  have hh0 := hR.h0
  have hh1 := hR.h1
  have hn0 := hR.n0
  have hn1 := hR.n1
  have hs0 := hR.s0
  have hs1 := hR.s1
  have hbx : Below w.heap.size w (w.alloc (.cells (timeCells T) 25)) := (Below.refl _ _).alloc (Nat.le_refl _) _
  have TB := Lib.hid (TimeBox.new w T)
  have BX := Lib.hid hbx
  obtain ⟨g0, g1, g2, g3, g4, g5, g6, g7, g8⟩ := (TimeBox.new w T).cells
  clear hbx
  unfold timeCells at *
  generalize iyT T = iy at *
  generalize iwT T = iw at *
  generalize ydT T = yd at *
  generalize wdT T = wd at *
  have P1 := fun w => p4_any T.y w (by omega) (by omega)
  unfold StrPost at *
  skip
  go_enter Tryz.func13, Tryz.ntmps13
  go_wp2_with (first | (go_at_call 21; refine (HI _).mono ?_; rintro e w1 ⟨rfl, hb1⟩; have TC := Lib.hid (TB.out.keep hb1); have BC := Lib.hid (BX.out.trans (hb1.mono BX.out.size)); obtain ⟨q0, q1, q2, q3, q4, q5, q6, q7, q8⟩ := TC.out.cells; clear hb1) | (go_at_call 25; with_reducible refine (P1 _).mono ?_; rintro e wa ⟨rfl, hba⟩; have TC := Lib.hid (TC.out.keep hba); have BC := Lib.hid (BC.out.trans (hba.mono BC.out.size)); obtain ⟨r0, r1, r2, r3, r4, r5, r6, r7, r8⟩ := TC.out.cells; clear hba))
  go_ret2
  exact ⟨rfl, BC.out⟩

set_option maxRecDepth 100000 in
set_option maxHeartbeats 4000000 in
theorem one_122 (T : STime) (hR : RightT T) (w : World) : Calls Tryz.prog 13 #[.int .u8 122, .agg (timeCells T)] w (OnePost w (offText T.off)) := by
  have HI := fun w => iso_sp T hR w
  have HY := fun w => yearDay_sp T hR w
  have HWd := fun w => weekDay_sp T hR w
  have HTw := fun w => twelve_sp T hR w
  have HHf := fun w => half_sp T hR w
  have HOf := fun w => offset_sp T.off w hR.o0 hR.o1
  have iyb := iyT_bd hR
  have ydb := ydT_bd hR
  have wdb := wdT_bd T
  have iwb := iwT_bd T
  have hy0 := hR.y0
  have hy1 := hR.y1
  have hm0 := hR.m0
  have hm1 := hR.m1
  have hd0 := hR.d0
  have hd1 := hR.dd
  have hh0 := hR.h0
  have hh1 := hR.h1
  have hn0 := hR.n0
  have hn1 := hR.n1
  have hs0 := hR.s0
  have hs1 := hR.s1
  have hbx : Below w.heap.size w (w.alloc (.cells (timeCells T) 25)) := (Below.refl _ _).alloc (Nat.le_refl _) _
  have TB := Lib.hid (TimeBox.new w T)
  have BX := Lib.hid hbx
  obtain ⟨g0, g1, g2, g3, g4, g5, g6, g7, g8⟩ := (TimeBox.new w T).cells
  clear hbx
  unfold timeCells at *
  generalize iyT T = iy at *
  generalize iwT T = iw at *
  generalize ydT T = yd at *
  generalize wdT T = wd at *
  unfold StrPost at *
  skip
  go_enter Tryz.func13, Tryz.ntmps13
  go_wp2_with (first | (go_at_call 21; refine (HI _).mono ?_; rintro e w1 ⟨rfl, hb1⟩; have TC := Lib.hid (TB.out.keep hb1); have BC := Lib.hid (BX.out.trans (hb1.mono BX.out.size)); obtain ⟨q0, q1, q2, q3, q4, q5, q6, q7, q8⟩ := TC.out.cells; clear hb1) | (go_at_call 29; with_reducible refine (HOf _).mono ?_; rintro e wa ⟨rfl, hba⟩; have TC := Lib.hid (TC.out.keep hba); have BC := Lib.hid (BC.out.trans (hba.mono BC.out.size)); obtain ⟨r0, r1, r2, r3, r4, r5, r6, r7, r8⟩ := TC.out.cells; clear hba))
  go_ret2
  exact ⟨rfl, BC.out⟩

set_option maxRecDepth 100000 in
set_option maxHeartbeats 4000000 in
theorem one_90 (T : STime) (hR : RightT T) (w : World) : Calls Tryz.prog 13 #[.int .u8 90, .agg (timeCells T)] w (OnePost w (T.nm.data.toList)) := by
  have HI := fun w => iso_sp T hR w
  have HY := fun w => yearDay_sp T hR w
  have HWd := fun w => weekDay_sp T hR w
  have HTw := fun w => twelve_sp T hR w
  have HHf := fun w => half_sp T hR w
  have HOf := fun w => offset_sp T.off w hR.o0 hR.o1
  have iyb := iyT_bd hR
  have ydb := ydT_bd hR
  have wdb := wdT_bd T
  have iwb := iwT_bd T
  have hy0 := hR.y0
  have hy1 := hR.y1
  have hm0 := hR.m0
  have hm1 := hR.m1
  have hd0 := hR.d0
  have hd1 := hR.dd
  have hh0 := hR.h0
  have hh1 := hR.h1
  have hn0 := hR.n0
  have hn1 := hR.n1
  have hs0 := hR.s0
  have hs1 := hR.s1
  have hbx : Below w.heap.size w (w.alloc (.cells (timeCells T) 25)) := (Below.refl _ _).alloc (Nat.le_refl _) _
  have TB := Lib.hid (TimeBox.new w T)
  have BX := Lib.hid hbx
  obtain ⟨g0, g1, g2, g3, g4, g5, g6, g7, g8⟩ := (TimeBox.new w T).cells
  clear hbx
  unfold timeCells at *
  generalize iyT T = iy at *
  generalize iwT T = iw at *
  generalize ydT T = yd at *
  generalize wdT T = wd at *
  unfold OnePost
  rw [show bs T.nm.data.toList = T.nm from (bs_of T.nm).symm]
  unfold StrPost at *
  skip
  go_enter Tryz.func13, Tryz.ntmps13
  go_wp2_with (first | (go_at_call 21; refine (HI _).mono ?_; rintro e w1 ⟨rfl, hb1⟩; have TC := Lib.hid (TB.out.keep hb1); have BC := Lib.hid (BX.out.trans (hb1.mono BX.out.size)); obtain ⟨q0, q1, q2, q3, q4, q5, q6, q7, q8⟩ := TC.out.cells; clear hb1))
  go_ret2
  exact ⟨rfl, BC.out⟩

set_option maxRecDepth 100000 in
set_option maxHeartbeats 4000000 in
theorem one_37 (T : STime) (hR : RightT T) (w : World) : Calls Tryz.prog 13 #[.int .u8 37, .agg (timeCells T)] w (OnePost w ([37])) := by
  have HI := fun w => iso_sp T hR w
  have HY := fun w => yearDay_sp T hR w
  have HWd := fun w => weekDay_sp T hR w
  have HTw := fun w => twelve_sp T hR w
  have HHf := fun w => half_sp T hR w
  have HOf := fun w => offset_sp T.off w hR.o0 hR.o1
  have iyb := iyT_bd hR
  have ydb := ydT_bd hR
  have wdb := wdT_bd T
  have iwb := iwT_bd T
  have hy0 := hR.y0
  have hy1 := hR.y1
  have hm0 := hR.m0
  have hm1 := hR.m1
  have hd0 := hR.d0
  have hd1 := hR.dd
  have hh0 := hR.h0
  have hh1 := hR.h1
  have hn0 := hR.n0
  have hn1 := hR.n1
  have hs0 := hR.s0
  have hs1 := hR.s1
  have hbx : Below w.heap.size w (w.alloc (.cells (timeCells T) 25)) := (Below.refl _ _).alloc (Nat.le_refl _) _
  have TB := Lib.hid (TimeBox.new w T)
  have BX := Lib.hid hbx
  obtain ⟨g0, g1, g2, g3, g4, g5, g6, g7, g8⟩ := (TimeBox.new w T).cells
  clear hbx
  unfold timeCells at *
  generalize iyT T = iy at *
  generalize iwT T = iw at *
  generalize ydT T = yd at *
  generalize wdT T = wd at *
  unfold StrPost at *
  skip
  go_enter Tryz.func13, Tryz.ntmps13
  go_wp2_with (first | (go_at_call 21; refine (HI _).mono ?_; rintro e w1 ⟨rfl, hb1⟩; have TC := Lib.hid (TB.out.keep hb1); have BC := Lib.hid (BX.out.trans (hb1.mono BX.out.size)); obtain ⟨q0, q1, q2, q3, q4, q5, q6, q7, q8⟩ := TC.out.cells; clear hb1))
  go_ret2
  exact ⟨rfl, BC.out⟩
end Go.Proofs.YtkcgngpoegglnaaGreatDoor
