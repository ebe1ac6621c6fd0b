/- The reference: the text of a directive whose region draws its order (printed by gen_spg.py). -/
import Derived.Deep.RegionLaw
import Derived.Test.YtkcgngpoegglnaaGreatDoorM43
import Derived.Test.YtkcgngpoegglnaaGreatDoorM10
namespace Go.Proofs.YtkcgngpoegglnaaGreatDoor
open Go Go.RowKit
set_option linter.unusedVariables false
set_option linter.unusedSimpArgs false

/-- the names of the days, in block b. -/
def DaysAt (w : World) (b : Nat) : Prop := w.heap[b]? = some (.cells dayCells 9 (0, 0))
def MonthsAt (w : World) (b : Nat) : Prop := w.heap[b]? = some (.cells monthCells 9 (0, 0))
theorem DaysAt.keep {w w' : World} {b : Nat} (h : DaysAt w b) (hb : Below w.heap.size w w') : DaysAt w' b := (hb.block b (lt_of_block h)).trans h
theorem DaysAt.cell {w : World} {b : Nat} (h : DaysAt w b) (d : Int) (h0 : 0 ≤ d) (h1 : d ≤ 6) : w.cell? ⟨b, d.toNat, none⟩ = some (.string (bs (dayName d))) := by
  rw [cell_of_row w b _ _ _ _ h]
  have hc : d = 0 ∨ d = 1 ∨ d = 2 ∨ d = 3 ∨ d = 4 ∨ d = 5 ∨ d = 6 := by omega
  rcases hc with rfl | rfl | rfl | rfl | rfl | rfl | rfl <;> rfl
theorem MonthsAt.cell {w : World} {b : Nat} (h : MonthsAt w b) (m : Int) (h0 : 1 ≤ m) (h1 : m ≤ 12) : w.cell? ⟨b, m.toNat - 1, none⟩ = some (.string (bs (monthName m))) := by
  rw [cell_of_row w b _ _ _ _ h]
  rcases months m h0 h1 with rfl | rfl | rfl | rfl | rfl | rfl | rfl | rfl | rfl | rfl | rfl | rfl <;> rfl
theorem days_sp (w : World) : Calls Tryz.prog 22 #[] w fun e w' => ∃ b, e = .returned (.slice (some ⟨b, 0, none⟩) 7 7) ∧ DaysAt w' b ∧ Below w.heap.size w w' :=
  (specDays_any w).mono fun e w' h => ⟨w.heap.size, h.1, by rw [← h.2]; exact new_block _ _, by rw [← h.2]; exact (Below.refl _ _).alloc (Nat.le_refl _) _⟩
theorem months_sp (w : World) : Calls Tryz.prog 24 #[] w fun e w' => ∃ b, e = .returned (.slice (some ⟨b, 0, none⟩) 12 12) ∧ MonthsAt w' b ∧ Below w.heap.size w w' :=
  (specMonths_any w).mono fun e w' h => ⟨w.heap.size, h.1, by rw [← h.2]; exact new_block _ _, by rw [← h.2]; exact (Below.refl _ _).alloc (Nat.le_refl _) _⟩
theorem spDayName_len (d : Int) (h0 : 0 ≤ d) (h1 : d ≤ 6) : 3 ≤ (dayName d).length ∧ (dayName d).length ≤ 20 := by
  have hc : d = 0 ∨ d = 1 ∨ d = 2 ∨ d = 3 ∨ d = 4 ∨ d = 5 ∨ d = 6 := by omega
  rcases hc with rfl | rfl | rfl | rfl | rfl | rfl | rfl <;> decide
theorem spMonthName_len (m : Int) (h0 : 1 ≤ m) (h1 : m ≤ 12) : 3 ≤ (monthName m).length ∧ (monthName m).length ≤ 20 := by
  rcases months m h0 h1 with rfl | rfl | rfl | rfl | rfl | rfl | rfl | rfl | rfl | rfl | rfl | rfl <;> decide
theorem sum_ok (a : List UInt8) (b : ByteArray) (h : a.length ≤ 100) (h2 : b.size ≤ 100) : ¬ (9223372036854775807 < (bs a).size + b.size) := by rw [bs_size]; omega
theorem bs_take (l : List UInt8) (n : Nat) : (bs l).extract 0 n = bs (l.take n) := by rw [bs_extract]; simp

set_option maxRecDepth 100000 in
set_option maxHeartbeats 8000000 in
theorem one_97 (T : STime) (hR : RightT T) (w : World) : Calls Tryz.prog 13 #[.int .u8 97, .agg (timeCells T)] w (OnePost w ((dayName (wdT T)).take 3)) := by
  have HI := fun w => iso_sp T hR w
  have HY := fun w => yearDay_sp T hR w
  have HWd := fun w => weekDay_sp T hR w
  have HTw := fun w => twelve_sp T hR w
  have HHf := fun w => half_sp T hR w
  have HOf := fun w => offset_sp T.off w hR.o0 hR.o1
  have iyb := iyT_bd hR
  have ydb := ydT_bd hR
  have wdb := wdT_bd T
  have iwb := iwT_bd T
  have hy0 := hR.y0
  have hy1 := hR.y1
  have hm0 := hR.m0
  have hm1 := hR.m1
  have hd0 := hR.d0
  have hd1 := hR.dd
  have hh0 := hR.h0
  have hh1 := hR.h1
  have hn0 := hR.n0
  have hn1 := hR.n1
  have hs0 := hR.s0
  have hs1 := hR.s1
  have hbx : Below w.heap.size w (w.alloc (.cells (timeCells T) 25)) := (Below.refl _ _).alloc (Nat.le_refl _) _
  have TB := Lib.hid (TimeBox.new w T)
  have BX := Lib.hid hbx
  obtain ⟨g0, g1, g2, g3, g4, g5, g6, g7, g8⟩ := (TimeBox.new w T).cells
  clear hbx
  unfold timeCells at *
  generalize iyT T = iy at *
  generalize iwT T = iw at *
  generalize ydT T = yd at *
  generalize wdT T = wd at *
  have hl := spDayName_len wd wdb.1 wdb.2
  have hx := bs_take (dayName wd) 3
  have hsz := bs_size (dayName wd)
  have h3 : 3 ≤ (bs (dayName wd)).size := by omega
  have h3i : (3 : Int) ≤ ((bs (dayName wd)).size : Int) := by omega
  have wd7 : wd < 7 := by omega
  have h3n : ¬ ((bs (dayName wd)).size : Int) < 3 := by omega
  clear hl hsz
  unfold OnePost
  generalize bs ((dayName wd).take 3) = X at *
  unfold StrPost at *
  skip
  go_enter Tryz.func13, Tryz.ntmps13
  go_wp2_with ((go_at_call 21; go_loud (refine (HI _).mono ?_; rintro e w1 ⟨rfl, hb1⟩; have T1 := TB.out.keep hb1; have TC := Lib.hid (show TimeBox w1.drew T w.heap.size from T1); clear T1; have BC := Lib.hid ((BX.out.trans (hb1.mono BX.out.size)).trans (show Below w.heap.size w1 w1.drew from ⟨rfl, rfl, rfl, Nat.le_refl _, fun _ _ => rfl⟩)); obtain ⟨q0, q1, q2, q3, q4, q5, q6, q7, q8⟩ := TC.out.cells; clear hb1)))
  go_region_law (first | (go_simp; go_at_call 22; refine (days_sp _).mono ?_; rintro e wa ⟨db, rfl, hda, hba⟩; have DA := Lib.hid hda; have dc := hda.cell wd wdb.1 wdb.2; have TC := Lib.hid (TC.out.keep hba); have BC := Lib.hid (BC.out.trans (hba.mono BC.out.size)); obtain ⟨r0, r1, r2, r3, r4, r5, r6, r7, r8⟩ := TC.out.cells; clear hba hda; dsimp only) | (go_simp; go_at_call 23; with_reducible refine (HWd _).mono ?_; rintro e wa ⟨rfl, hba⟩; have TC := Lib.hid (TC.out.keep hba); have BC := Lib.hid (BC.out.trans (hba.mono BC.out.size)); obtain ⟨r0, r1, r2, r3, r4, r5, r6, r7, r8⟩ := TC.out.cells; try (have dc := (DA.out.keep hba).cell wd wdb.1 wdb.2); clear hba; dsimp only))
  all_goals
    go_wp2
    go_ret2
    exact ⟨rfl, BC.out⟩

set_option maxRecDepth 100000 in
set_option maxHeartbeats 8000000 in
theorem one_65 (T : STime) (hR : RightT T) (w : World) : Calls Tryz.prog 13 #[.int .u8 65, .agg (timeCells T)] w (OnePost w (dayName (wdT T))) := by
  have HI := fun w => iso_sp T hR w
  have HY := fun w => yearDay_sp T hR w
  have HWd := fun w => weekDay_sp T hR w
  have HTw := fun w => twelve_sp T hR w
  have HHf := fun w => half_sp T hR w
  have HOf := fun w => offset_sp T.off w hR.o0 hR.o1
  have iyb := iyT_bd hR
  have ydb := ydT_bd hR
  have wdb := wdT_bd T
  have iwb := iwT_bd T
  have hy0 := hR.y0
  have hy1 := hR.y1
  have hm0 := hR.m0
  have hm1 := hR.m1
  have hd0 := hR.d0
  have hd1 := hR.dd
  have hh0 := hR.h0
  have hh1 := hR.h1
  have hn0 := hR.n0
  have hn1 := hR.n1
  have hs0 := hR.s0
  have hs1 := hR.s1
  have hbx : Below w.heap.size w (w.alloc (.cells (timeCells T) 25)) := (Below.refl _ _).alloc (Nat.le_refl _) _
  have TB := Lib.hid (TimeBox.new w T)
  have BX := Lib.hid hbx
  obtain ⟨g0, g1, g2, g3, g4, g5, g6, g7, g8⟩ := (TimeBox.new w T).cells
  clear hbx
  unfold timeCells at *
  generalize iyT T = iy at *
  generalize iwT T = iw at *
  generalize ydT T = yd at *
  generalize wdT T = wd at *
  have wd7 : wd < 7 := by omega
  unfold StrPost at *
  skip
  go_enter Tryz.func13, Tryz.ntmps13
  go_wp2_with ((go_at_call 21; go_loud (refine (HI _).mono ?_; rintro e w1 ⟨rfl, hb1⟩; have T1 := TB.out.keep hb1; have TC := Lib.hid (show TimeBox w1.drew T w.heap.size from T1); clear T1; have BC := Lib.hid ((BX.out.trans (hb1.mono BX.out.size)).trans (show Below w.heap.size w1 w1.drew from ⟨rfl, rfl, rfl, Nat.le_refl _, fun _ _ => rfl⟩)); obtain ⟨q0, q1, q2, q3, q4, q5, q6, q7, q8⟩ := TC.out.cells; clear hb1)))
  go_region_law (first | (go_simp; go_at_call 22; refine (days_sp _).mono ?_; rintro e wa ⟨db, rfl, hda, hba⟩; have DA := Lib.hid hda; have dc := hda.cell wd wdb.1 wdb.2; have TC := Lib.hid (TC.out.keep hba); have BC := Lib.hid (BC.out.trans (hba.mono BC.out.size)); obtain ⟨r0, r1, r2, r3, r4, r5, r6, r7, r8⟩ := TC.out.cells; clear hba hda; dsimp only) | (go_simp; go_at_call 23; with_reducible refine (HWd _).mono ?_; rintro e wa ⟨rfl, hba⟩; have TC := Lib.hid (TC.out.keep hba); have BC := Lib.hid (BC.out.trans (hba.mono BC.out.size)); obtain ⟨r0, r1, r2, r3, r4, r5, r6, r7, r8⟩ := TC.out.cells; try (have dc := (DA.out.keep hba).cell wd wdb.1 wdb.2); clear hba; dsimp only))
  all_goals
    go_wp2
    go_ret2
    exact ⟨rfl, BC.out⟩

set_option maxRecDepth 100000 in
set_option maxHeartbeats 8000000 in
theorem one_98 (T : STime) (hR : RightT T) (w : World) : Calls Tryz.prog 13 #[.int .u8 98, .agg (timeCells T)] w (OnePost w ((monthName T.m).take 3)) := by
  have HI := fun w => iso_sp T hR w
  have HY := fun w => yearDay_sp T hR w
  have HWd := fun w => weekDay_sp T hR w
  have HTw := fun w => twelve_sp T hR w
  have HHf := fun w => half_sp T hR w
  have HOf := fun w => offset_sp T.off w hR.o0 hR.o1
  have iyb := iyT_bd hR
  have ydb := ydT_bd hR
  have wdb := wdT_bd T
  have iwb := iwT_bd T
  have hy0 := hR.y0
  have hy1 := hR.y1
  have hm0 := hR.m0
  have hm1 := hR.m1
  have hd0 := hR.d0
  have hd1 := hR.dd
  have hh0 := hR.h0
  have hh1 := hR.h1
  have hn0 := hR.n0
  have hn1 := hR.n1
  have hs0 := hR.s0
  have hs1 := hR.s1
  have hbx : Below w.heap.size w (w.alloc (.cells (timeCells T) 25)) := (Below.refl _ _).alloc (Nat.le_refl _) _
  have TB := Lib.hid (TimeBox.new w T)
  have BX := Lib.hid hbx
  obtain ⟨g0, g1, g2, g3, g4, g5, g6, g7, g8⟩ := (TimeBox.new w T).cells
  clear hbx
  unfold timeCells at *
  generalize iyT T = iy at *
  generalize iwT T = iw at *
  generalize ydT T = yd at *
  generalize wdT T = wd at *
  have hl := spMonthName_len T.m hm0 hm1
  have hx := bs_take (monthName T.m) 3
  have hsz := bs_size (monthName T.m)
  have h3 : 3 ≤ (bs (monthName T.m)).size := by omega
  have h3i : (3 : Int) ≤ ((bs (monthName T.m)).size : Int) := by omega
  have w455 : IntKind.i64.wrap (T.m - 1) = T.m - 1 := IntWalk.i64_in _ (by omega)
  have m12 : T.m - 1 < 12 := by omega
  have m0 : 0 ≤ T.m - 1 := by omega
  have h3n : ¬ ((bs (monthName T.m)).size : Int) < 3 := by omega
  clear hl hsz
  unfold OnePost
  generalize bs ((monthName T.m).take 3) = X at *
  unfold StrPost at *
  skip
  go_enter Tryz.func13, Tryz.ntmps13
  go_wp2_with ((go_at_call 21; go_loud (refine (HI _).mono ?_; rintro e w1 ⟨rfl, hb1⟩; have T1 := TB.out.keep hb1; have TC := Lib.hid (show TimeBox w1.drew T w.heap.size from T1); clear T1; have BC := Lib.hid ((BX.out.trans (hb1.mono BX.out.size)).trans (show Below w.heap.size w1 w1.drew from ⟨rfl, rfl, rfl, Nat.le_refl _, fun _ _ => rfl⟩)); obtain ⟨q0, q1, q2, q3, q4, q5, q6, q7, q8⟩ := TC.out.cells; clear hb1)))
  go_region_law (first | (go_simp; go_at_call 24; refine (months_sp _).mono ?_; rintro e wa ⟨db, rfl, hda, hba⟩; have dc := hda.cell T.m hm0 hm1; have TC := Lib.hid (TC.out.keep hba); have BC := Lib.hid (BC.out.trans (hba.mono BC.out.size)); obtain ⟨r0, r1, r2, r3, r4, r5, r6, r7, r8⟩ := TC.out.cells; clear hba hda; dsimp only))
  all_goals
    go_wp2
    go_ret2
    exact ⟨rfl, BC.out⟩

set_option maxRecDepth 100000 in
set_option maxHeartbeats 8000000 in
theorem one_104 (T : STime) (hR : RightT T) (w : World) : Calls Tryz.prog 13 #[.int .u8 104, .agg (timeCells T)] w (OnePost w ((monthName T.m).take 3)) := by
  have HI := fun w => iso_sp T hR w
  have HY := fun w => yearDay_sp T hR w
  have HWd := fun w => weekDay_sp T hR w
  have HTw := fun w => twelve_sp T hR w
  have HHf := fun w => half_sp T hR w
  have HOf := fun w => offset_sp T.off w hR.o0 hR.o1
  have iyb := iyT_bd hR
  have ydb := ydT_bd hR
  have wdb := wdT_bd T
  have iwb := iwT_bd T
  have hy0 := hR.y0
  have hy1 := hR.y1
  have hm0 := hR.m0
  have hm1 := hR.m1
  have hd0 := hR.d0
  have hd1 := hR.dd
  have hh0 := hR.h0
  have hh1 := hR.h1
  have hn0 := hR.n0
  have hn1 := hR.n1
  have hs0 := hR.s0
  have hs1 := hR.s1
  have hbx : Below w.heap.size w (w.alloc (.cells (timeCells T) 25)) := (Below.refl _ _).alloc (Nat.le_refl _) _
  have TB := Lib.hid (TimeBox.new w T)
  have BX := Lib.hid hbx
  obtain ⟨g0, g1, g2, g3, g4, g5, g6, g7, g8⟩ := (TimeBox.new w T).cells
  clear hbx
  unfold timeCells at *
  generalize iyT T = iy at *
  generalize iwT T = iw at *
  generalize ydT T = yd at *
  generalize wdT T = wd at *
  have hl := spMonthName_len T.m hm0 hm1
  have hx := bs_take (monthName T.m) 3
  have hsz := bs_size (monthName T.m)
  have h3 : 3 ≤ (bs (monthName T.m)).size := by omega
  have h3i : (3 : Int) ≤ ((bs (monthName T.m)).size : Int) := by omega
  have w455 : IntKind.i64.wrap (T.m - 1) = T.m - 1 := IntWalk.i64_in _ (by omega)
  have m12 : T.m - 1 < 12 := by omega
  have m0 : 0 ≤ T.m - 1 := by omega
  have h3n : ¬ ((bs (monthName T.m)).size : Int) < 3 := by omega
  clear hl hsz
  unfold OnePost
  generalize bs ((monthName T.m).take 3) = X at *
  unfold StrPost at *
  skip
  go_enter Tryz.func13, Tryz.ntmps13
  go_wp2_with ((go_at_call 21; go_loud (refine (HI _).mono ?_; rintro e w1 ⟨rfl, hb1⟩; have T1 := TB.out.keep hb1; have TC := Lib.hid (show TimeBox w1.drew T w.heap.size from T1); clear T1; have BC := Lib.hid ((BX.out.trans (hb1.mono BX.out.size)).trans (show Below w.heap.size w1 w1.drew from ⟨rfl, rfl, rfl, Nat.le_refl _, fun _ _ => rfl⟩)); obtain ⟨q0, q1, q2, q3, q4, q5, q6, q7, q8⟩ := TC.out.cells; clear hb1)))
  go_region_law (first | (go_simp; go_at_call 24; refine (months_sp _).mono ?_; rintro e wa ⟨db, rfl, hda, hba⟩; have dc := hda.cell T.m hm0 hm1; have TC := Lib.hid (TC.out.keep hba); have BC := Lib.hid (BC.out.trans (hba.mono BC.out.size)); obtain ⟨r0, r1, r2, r3, r4, r5, r6, r7, r8⟩ := TC.out.cells; clear hba hda; dsimp only))
  all_goals
    go_wp2
    go_ret2
    exact ⟨rfl, BC.out⟩

set_option maxRecDepth 100000 in
set_option maxHeartbeats 8000000 in
theorem one_66 (T : STime) (hR : RightT T) (w : World) : Calls Tryz.prog 13 #[.int .u8 66, .agg (timeCells T)] w (OnePost w (monthName T.m)) := by
  have HI := fun w => iso_sp T hR w
  have HY := fun w => yearDay_sp T hR w
  have HWd := fun w => weekDay_sp T hR w
  have HTw := fun w => twelve_sp T hR w
  have HHf := fun w => half_sp T hR w
  have HOf := fun w => offset_sp T.off w hR.o0 hR.o1
  have iyb := iyT_bd hR
  have ydb := ydT_bd hR
  have wdb := wdT_bd T
  have iwb := iwT_bd T
  have hy0 := hR.y0
  have hy1 := hR.y1
  have hm0 := hR.m0
  have hm1 := hR.m1
  have hd0 := hR.d0
  have hd1 := hR.dd
  have hh0 := hR.h0
  have hh1 := hR.h1
  have hn0 := hR.n0
  have hn1 := hR.n1
  have hs0 := hR.s0
  have hs1 := hR.s1
  have hbx : Below w.heap.size w (w.alloc (.cells (timeCells T) 25)) := (Below.refl _ _).alloc (Nat.le_refl _) _
  have TB := Lib.hid (TimeBox.new w T)
  have BX := Lib.hid hbx
  obtain ⟨g0, g1, g2, g3, g4, g5, g6, g7, g8⟩ := (TimeBox.new w T).cells
  clear hbx
  unfold timeCells at *
  generalize iyT T = iy at *
  generalize iwT T = iw at *
  generalize ydT T = yd at *
  generalize wdT T = wd at *
  have w455 : IntKind.i64.wrap (T.m - 1) = T.m - 1 := IntWalk.i64_in _ (by omega)
  have m12 : T.m - 1 < 12 := by omega
  have m0 : 0 ≤ T.m - 1 := by omega
  unfold StrPost at *
  skip
  go_enter Tryz.func13, Tryz.ntmps13
  go_wp2_with ((go_at_call 21; go_loud (refine (HI _).mono ?_; rintro e w1 ⟨rfl, hb1⟩; have T1 := TB.out.keep hb1; have TC := Lib.hid (show TimeBox w1.drew T w.heap.size from T1); clear T1; have BC := Lib.hid ((BX.out.trans (hb1.mono BX.out.size)).trans (show Below w.heap.size w1 w1.drew from ⟨rfl, rfl, rfl, Nat.le_refl _, fun _ _ => rfl⟩)); obtain ⟨q0, q1, q2, q3, q4, q5, q6, q7, q8⟩ := TC.out.cells; clear hb1)))
  go_region_law (first | (go_simp; go_at_call 24; refine (months_sp _).mono ?_; rintro e wa ⟨db, rfl, hda, hba⟩; have dc := hda.cell T.m hm0 hm1; have TC := Lib.hid (TC.out.keep hba); have BC := Lib.hid (BC.out.trans (hba.mono BC.out.size)); obtain ⟨r0, r1, r2, r3, r4, r5, r6, r7, r8⟩ := TC.out.cells; clear hba hda; dsimp only))
  all_goals
    go_wp2
    go_ret2
    exact ⟨rfl, BC.out⟩

set_option maxRecDepth 100000 in
set_option maxHeartbeats 8000000 in
theorem one_82 (T : STime) (hR : RightT T) (w : World) : Calls Tryz.prog 13 #[.int .u8 82, .agg (timeCells T)] w (OnePost w (d2 T.hh ++ [58] ++ d2 T.mm)) := by
  have HI := fun w => iso_sp T hR w
  have HY := fun w => yearDay_sp T hR w
  have HWd := fun w => weekDay_sp T hR w
  have HTw := fun w => twelve_sp T hR w
  have HHf := fun w => half_sp T hR w
  have HOf := fun w => offset_sp T.off w hR.o0 hR.o1
  have iyb := iyT_bd hR
  have ydb := ydT_bd hR
  have wdb := wdT_bd T
  have iwb := iwT_bd T
  have hy0 := hR.y0
  have hy1 := hR.y1
  have hm0 := hR.m0
  have hm1 := hR.m1
  have hd0 := hR.d0
  have hd1 := hR.dd
  have hh0 := hR.h0
  have hh1 := hR.h1
  have hn0 := hR.n0
  have hn1 := hR.n1
  have hs0 := hR.s0
  have hs1 := hR.s1
  have hbx : Below w.heap.size w (w.alloc (.cells (timeCells T) 25)) := (Below.refl _ _).alloc (Nat.le_refl _) _
  have TB := Lib.hid (TimeBox.new w T)
  have BX := Lib.hid hbx
  obtain ⟨g0, g1, g2, g3, g4, g5, g6, g7, g8⟩ := (TimeBox.new w T).cells
  clear hbx
  unfold timeCells at *
  generalize iyT T = iy at *
  generalize iwT T = iw at *
  generalize ydT T = yd at *
  generalize wdT T = wd at *
  have P1 := fun w => p2_any (T.hh) w (by omega) (by omega)
  have P2 := fun w => p2_any (T.mm) w (by omega) (by omega)
  have hs1 : ¬ (9223372036854775807 < (bs (d2 T.hh)).size + 1) := sum_ok _ (ByteArray.mk #[58]) (by simp [d2, d4]) (by first | (rw [bs_size]; simp [d2, d4]) | simp [ByteArray.size])
  have ha1 : bs (d2 T.hh) ++ (ByteArray.mk #[58]) = bs (d2 T.hh ++ [58]) := bs_append (d2 T.hh) ([58])
  have hs2 : ¬ (9223372036854775807 < (bs (d2 T.hh ++ [58])).size + (bs (d2 T.mm)).size) := sum_ok _ _ (by simp [d2, d4]) (by first | (rw [bs_size]; simp [d2, d4]) | simp [ByteArray.size])
  have ha2 : bs (d2 T.hh ++ [58]) ++ (bs (d2 T.mm)) = bs (d2 T.hh ++ [58] ++ d2 T.mm) := bs_append (d2 T.hh ++ [58]) (d2 T.mm)
  unfold OnePost StrPost at *
  generalize bs (d2 T.hh ++ [58] ++ d2 T.mm) = j1 at *
  generalize bs (d2 T.hh ++ [58]) = j0 at *
  generalize bs (d2 T.hh) = k0 at *
  generalize bs (d2 T.mm) = k1 at *
  skip
  go_enter Tryz.func13, Tryz.ntmps13
  go_wp2_with ((go_at_call 21; go_loud (refine (HI _).mono ?_; rintro e w1 ⟨rfl, hb1⟩; have T1 := TB.out.keep hb1; have TC := Lib.hid (show TimeBox w1.drew T w.heap.size from T1); clear T1; have BC := Lib.hid ((BX.out.trans (hb1.mono BX.out.size)).trans (show Below w.heap.size w1 w1.drew from ⟨rfl, rfl, rfl, Nat.le_refl _, fun _ _ => rfl⟩)); obtain ⟨q0, q1, q2, q3, q4, q5, q6, q7, q8⟩ := TC.out.cells; clear hb1)))
  go_region_law (first | (go_simp; go_at_call 25; (first | with_reducible refine (P1 _).mono ?_ | with_reducible refine (P2 _).mono ?_); rintro e wa ⟨rfl, hba⟩; have TC := Lib.hid (TC.out.keep hba); have BC := Lib.hid (BC.out.trans (hba.mono BC.out.size)); obtain ⟨r0, r1, r2, r3, r4, r5, r6, r7, r8⟩ := TC.out.cells; clear hba; dsimp only))
  all_goals
    go_wp2
    go_ret2
    exact ⟨rfl, BC.out⟩

set_option maxRecDepth 100000 in
set_option maxHeartbeats 8000000 in
theorem one_84 (T : STime) (hR : RightT T) (w : World) : Calls Tryz.prog 13 #[.int .u8 84, .agg (timeCells T)] w (OnePost w (d2 T.hh ++ [58] ++ d2 T.mm ++ [58] ++ d2 T.ss)) := by
  have HI := fun w => iso_sp T hR w
  have HY := fun w => yearDay_sp T hR w
  have HWd := fun w => weekDay_sp T hR w
  have HTw := fun w => twelve_sp T hR w
  have HHf := fun w => half_sp T hR w
  have HOf := fun w => offset_sp T.off w hR.o0 hR.o1
  have iyb := iyT_bd hR
  have ydb := ydT_bd hR
  have wdb := wdT_bd T
  have iwb := iwT_bd T
  have hy0 := hR.y0
  have hy1 := hR.y1
  have hm0 := hR.m0
  have hm1 := hR.m1
  have hd0 := hR.d0
  have hd1 := hR.dd
  have hh0 := hR.h0
  have hh1 := hR.h1
  have hn0 := hR.n0
  have hn1 := hR.n1
  have hs0 := hR.s0
  have hs1 := hR.s1
  have hbx : Below w.heap.size w (w.alloc (.cells (timeCells T) 25)) := (Below.refl _ _).alloc (Nat.le_refl _) _
  have TB := Lib.hid (TimeBox.new w T)
  have BX := Lib.hid hbx
  obtain ⟨g0, g1, g2, g3, g4, g5, g6, g7, g8⟩ := (TimeBox.new w T).cells
  clear hbx
  unfold timeCells at *
  generalize iyT T = iy at *
  generalize iwT T = iw at *
  generalize ydT T = yd at *
  generalize wdT T = wd at *
  have P1 := fun w => p2_any (T.hh) w (by omega) (by omega)
  have P2 := fun w => p2_any (T.mm) w (by omega) (by omega)
  have P3 := fun w => p2_any (T.ss) w (by omega) (by omega)
  have hs1 : ¬ (9223372036854775807 < (bs (d2 T.hh)).size + 1) := sum_ok _ (ByteArray.mk #[58]) (by simp [d2, d4]) (by first | (rw [bs_size]; simp [d2, d4]) | simp [ByteArray.size])
  have ha1 : bs (d2 T.hh) ++ (ByteArray.mk #[58]) = bs (d2 T.hh ++ [58]) := bs_append (d2 T.hh) ([58])
  have hs2 : ¬ (9223372036854775807 < (bs (d2 T.hh ++ [58])).size + (bs (d2 T.mm)).size) := sum_ok _ _ (by simp [d2, d4]) (by first | (rw [bs_size]; simp [d2, d4]) | simp [ByteArray.size])
  have ha2 : bs (d2 T.hh ++ [58]) ++ (bs (d2 T.mm)) = bs (d2 T.hh ++ [58] ++ d2 T.mm) := bs_append (d2 T.hh ++ [58]) (d2 T.mm)
  have hs3 : ¬ (9223372036854775807 < (bs (d2 T.hh ++ [58] ++ d2 T.mm)).size + 1) := sum_ok _ (ByteArray.mk #[58]) (by simp [d2, d4]) (by first | (rw [bs_size]; simp [d2, d4]) | simp [ByteArray.size])
  have ha3 : bs (d2 T.hh ++ [58] ++ d2 T.mm) ++ (ByteArray.mk #[58]) = bs (d2 T.hh ++ [58] ++ d2 T.mm ++ [58]) := bs_append (d2 T.hh ++ [58] ++ d2 T.mm) ([58])
  have hs4 : ¬ (9223372036854775807 < (bs (d2 T.hh ++ [58] ++ d2 T.mm ++ [58])).size + (bs (d2 T.ss)).size) := sum_ok _ _ (by simp [d2, d4]) (by first | (rw [bs_size]; simp [d2, d4]) | simp [ByteArray.size])
  have ha4 : bs (d2 T.hh ++ [58] ++ d2 T.mm ++ [58]) ++ (bs (d2 T.ss)) = bs (d2 T.hh ++ [58] ++ d2 T.mm ++ [58] ++ d2 T.ss) := bs_append (d2 T.hh ++ [58] ++ d2 T.mm ++ [58]) (d2 T.ss)
  unfold OnePost StrPost at *
  generalize bs (d2 T.hh ++ [58] ++ d2 T.mm ++ [58] ++ d2 T.ss) = j3 at *
  generalize bs (d2 T.hh ++ [58] ++ d2 T.mm ++ [58]) = j2 at *
  generalize bs (d2 T.hh ++ [58] ++ d2 T.mm) = j1 at *
  generalize bs (d2 T.hh ++ [58]) = j0 at *
  generalize bs (d2 T.hh) = k0 at *
  generalize bs (d2 T.mm) = k1 at *
  generalize bs (d2 T.ss) = k2 at *
  skip
  go_enter Tryz.func13, Tryz.ntmps13
  go_wp2_with ((go_at_call 21; go_loud (refine (HI _).mono ?_; rintro e w1 ⟨rfl, hb1⟩; have T1 := TB.out.keep hb1; have TC := Lib.hid (show TimeBox w1.drew T w.heap.size from T1); clear T1; have BC := Lib.hid ((BX.out.trans (hb1.mono BX.out.size)).trans (show Below w.heap.size w1 w1.drew from ⟨rfl, rfl, rfl, Nat.le_refl _, fun _ _ => rfl⟩)); obtain ⟨q0, q1, q2, q3, q4, q5, q6, q7, q8⟩ := TC.out.cells; clear hb1)))
  go_region_law (first | (go_simp; go_at_call 25; (first | with_reducible refine (P1 _).mono ?_ | with_reducible refine (P2 _).mono ?_ | with_reducible refine (P3 _).mono ?_); rintro e wa ⟨rfl, hba⟩; have TC := Lib.hid (TC.out.keep hba); have BC := Lib.hid (BC.out.trans (hba.mono BC.out.size)); obtain ⟨r0, r1, r2, r3, r4, r5, r6, r7, r8⟩ := TC.out.cells; clear hba; dsimp only))
  all_goals
    go_wp2
    go_ret2
    exact ⟨rfl, BC.out⟩

set_option maxRecDepth 100000 in
set_option maxHeartbeats 8000000 in
theorem one_70 (T : STime) (hR : RightT T) (w : World) : Calls Tryz.prog 13 #[.int .u8 70, .agg (timeCells T)] w (OnePost w (d4 T.y ++ [45] ++ d2 T.m ++ [45] ++ d2 T.d)) := by
  have HI := fun w => iso_sp T hR w
  have HY := fun w => yearDay_sp T hR w
  have HWd := fun w => weekDay_sp T hR w
  have HTw := fun w => twelve_sp T hR w
  have HHf := fun w => half_sp T hR w
  have HOf := fun w => offset_sp T.off w hR.o0 hR.o1
  have iyb := iyT_bd hR
  have ydb := ydT_bd hR
  have wdb := wdT_bd T
  have iwb := iwT_bd T
  have hy0 := hR.y0
  have hy1 := hR.y1
  have hm0 := hR.m0
  have hm1 := hR.m1
  have hd0 := hR.d0
  have hd1 := hR.dd
  have hh0 := hR.h0
  have hh1 := hR.h1
  have hn0 := hR.n0
  have hn1 := hR.n1
  have hs0 := hR.s0
  have hs1 := hR.s1
  have hbx : Below w.heap.size w (w.alloc (.cells (timeCells T) 25)) := (Below.refl _ _).alloc (Nat.le_refl _) _
  have TB := Lib.hid (TimeBox.new w T)
  have BX := Lib.hid hbx
  obtain ⟨g0, g1, g2, g3, g4, g5, g6, g7, g8⟩ := (TimeBox.new w T).cells
  clear hbx
  unfold timeCells at *
  generalize iyT T = iy at *
  generalize iwT T = iw at *
  generalize ydT T = yd at *
  generalize wdT T = wd at *
  have P1 := fun w => p4_any T.y w (by omega) (by omega)
  have P2 := fun w => p2_any (T.m) w (by omega) (by omega)
  have P3 := fun w => p2_any (T.d) w (by omega) (by omega)
  have hs1 : ¬ (9223372036854775807 < (bs (d4 T.y)).size + 1) := sum_ok _ (ByteArray.mk #[45]) (by simp [d2, d4]) (by first | (rw [bs_size]; simp [d2, d4]) | simp [ByteArray.size])
  have ha1 : bs (d4 T.y) ++ (ByteArray.mk #[45]) = bs (d4 T.y ++ [45]) := bs_append (d4 T.y) ([45])
  have hs2 : ¬ (9223372036854775807 < (bs (d4 T.y ++ [45])).size + (bs (d2 T.m)).size) := sum_ok _ _ (by simp [d2, d4]) (by first | (rw [bs_size]; simp [d2, d4]) | simp [ByteArray.size])
  have ha2 : bs (d4 T.y ++ [45]) ++ (bs (d2 T.m)) = bs (d4 T.y ++ [45] ++ d2 T.m) := bs_append (d4 T.y ++ [45]) (d2 T.m)
  have hs3 : ¬ (9223372036854775807 < (bs (d4 T.y ++ [45] ++ d2 T.m)).size + 1) := sum_ok _ (ByteArray.mk #[45]) (by simp [d2, d4]) (by first | (rw [bs_size]; simp [d2, d4]) | simp [ByteArray.size])
  have ha3 : bs (d4 T.y ++ [45] ++ d2 T.m) ++ (ByteArray.mk #[45]) = bs (d4 T.y ++ [45] ++ d2 T.m ++ [45]) := bs_append (d4 T.y ++ [45] ++ d2 T.m) ([45])
  have hs4 : ¬ (9223372036854775807 < (bs (d4 T.y ++ [45] ++ d2 T.m ++ [45])).size + (bs (d2 T.d)).size) := sum_ok _ _ (by simp [d2, d4]) (by first | (rw [bs_size]; simp [d2, d4]) | simp [ByteArray.size])
  have ha4 : bs (d4 T.y ++ [45] ++ d2 T.m ++ [45]) ++ (bs (d2 T.d)) = bs (d4 T.y ++ [45] ++ d2 T.m ++ [45] ++ d2 T.d) := bs_append (d4 T.y ++ [45] ++ d2 T.m ++ [45]) (d2 T.d)
  unfold OnePost StrPost at *
  generalize bs (d4 T.y ++ [45] ++ d2 T.m ++ [45] ++ d2 T.d) = j3 at *
  generalize bs (d4 T.y ++ [45] ++ d2 T.m ++ [45]) = j2 at *
  generalize bs (d4 T.y ++ [45] ++ d2 T.m) = j1 at *
  generalize bs (d4 T.y ++ [45]) = j0 at *
  generalize bs (d2 T.d) = k0 at *
  generalize bs (d2 T.m) = k1 at *
  generalize bs (d4 T.y) = k2 at *
  skip
  go_enter Tryz.func13, Tryz.ntmps13
  go_wp2_with ((go_at_call 21; go_loud (refine (HI _).mono ?_; rintro e w1 ⟨rfl, hb1⟩; have T1 := TB.out.keep hb1; have TC := Lib.hid (show TimeBox w1.drew T w.heap.size from T1); clear T1; have BC := Lib.hid ((BX.out.trans (hb1.mono BX.out.size)).trans (show Below w.heap.size w1 w1.drew from ⟨rfl, rfl, rfl, Nat.le_refl _, fun _ _ => rfl⟩)); obtain ⟨q0, q1, q2, q3, q4, q5, q6, q7, q8⟩ := TC.out.cells; clear hb1)))
  go_region_law (first | (go_simp; go_at_call 25; (first | with_reducible refine (P1 _).mono ?_ | with_reducible refine (P2 _).mono ?_ | with_reducible refine (P3 _).mono ?_); rintro e wa ⟨rfl, hba⟩; have TC := Lib.hid (TC.out.keep hba); have BC := Lib.hid (BC.out.trans (hba.mono BC.out.size)); obtain ⟨r0, r1, r2, r3, r4, r5, r6, r7, r8⟩ := TC.out.cells; clear hba; dsimp only))
  all_goals
    go_wp2
    go_ret2
    exact ⟨rfl, BC.out⟩

set_option maxRecDepth 100000 in
set_option maxHeartbeats 8000000 in
theorem one_68 (T : STime) (hR : RightT T) (w : World) : Calls Tryz.prog 13 #[.int .u8 68, .agg (timeCells T)] w (OnePost w (d2 T.m ++ [47] ++ d2 T.d ++ [47] ++ d2 (T.y % 100))) := by
  have HI := fun w => iso_sp T hR w
  have HY := fun w => yearDay_sp T hR w
  have HWd := fun w => weekDay_sp T hR w
  have HTw := fun w => twelve_sp T hR w
  have HHf := fun w => half_sp T hR w
  have HOf := fun w => offset_sp T.off w hR.o0 hR.o1
  have iyb := iyT_bd hR
  have ydb := ydT_bd hR
  have wdb := wdT_bd T
  have iwb := iwT_bd T
  have hy0 := hR.y0
  have hy1 := hR.y1
  have hm0 := hR.m0
  have hm1 := hR.m1
  have hd0 := hR.d0
  have hd1 := hR.dd
  have hh0 := hR.h0
  have hh1 := hR.h1
  have hn0 := hR.n0
  have hn1 := hR.n1
  have hs0 := hR.s0
  have hs1 := hR.s1
  have hbx : Below w.heap.size w (w.alloc (.cells (timeCells T) 25)) := (Below.refl _ _).alloc (Nat.le_refl _) _
  have TB := Lib.hid (TimeBox.new w T)
  have BX := Lib.hid hbx
  obtain ⟨g0, g1, g2, g3, g4, g5, g6, g7, g8⟩ := (TimeBox.new w T).cells
  clear hbx
  unfold timeCells at *
  generalize iyT T = iy at *
  generalize iwT T = iw at *
  generalize ydT T = yd at *
  generalize wdT T = wd at *
  have e1 : Int.tmod T.y 100 = T.y % 100 := Int.tmod_eq_emod_of_nonneg (by omega)
  have yb : 0 ≤ T.y % 100 ∧ T.y % 100 ≤ 99 := by omega
  have w9721 : IntKind.i64.wrap (T.y % 100) = T.y % 100 := IntWalk.i64_in _ (by omega)
  have P1 := fun w => p2_any (T.m) w (by omega) (by omega)
  have P2 := fun w => p2_any (T.d) w (by omega) (by omega)
  have P3 := fun w => p2_any (T.y % 100) w (by omega) (by omega)
  have hs1 : ¬ (9223372036854775807 < (bs (d2 T.m)).size + 1) := sum_ok _ (ByteArray.mk #[47]) (by simp [d2, d4]) (by first | (rw [bs_size]; simp [d2, d4]) | simp [ByteArray.size])
  have ha1 : bs (d2 T.m) ++ (ByteArray.mk #[47]) = bs (d2 T.m ++ [47]) := bs_append (d2 T.m) ([47])
  have hs2 : ¬ (9223372036854775807 < (bs (d2 T.m ++ [47])).size + (bs (d2 T.d)).size) := sum_ok _ _ (by simp [d2, d4]) (by first | (rw [bs_size]; simp [d2, d4]) | simp [ByteArray.size])
  have ha2 : bs (d2 T.m ++ [47]) ++ (bs (d2 T.d)) = bs (d2 T.m ++ [47] ++ d2 T.d) := bs_append (d2 T.m ++ [47]) (d2 T.d)
  have hs3 : ¬ (9223372036854775807 < (bs (d2 T.m ++ [47] ++ d2 T.d)).size + 1) := sum_ok _ (ByteArray.mk #[47]) (by simp [d2, d4]) (by first | (rw [bs_size]; simp [d2, d4]) | simp [ByteArray.size])
  have ha3 : bs (d2 T.m ++ [47] ++ d2 T.d) ++ (ByteArray.mk #[47]) = bs (d2 T.m ++ [47] ++ d2 T.d ++ [47]) := bs_append (d2 T.m ++ [47] ++ d2 T.d) ([47])
  have hs4 : ¬ (9223372036854775807 < (bs (d2 T.m ++ [47] ++ d2 T.d ++ [47])).size + (bs (d2 (T.y % 100))).size) := sum_ok _ _ (by simp [d2, d4]) (by first | (rw [bs_size]; simp [d2, d4]) | simp [ByteArray.size])
  have ha4 : bs (d2 T.m ++ [47] ++ d2 T.d ++ [47]) ++ (bs (d2 (T.y % 100))) = bs (d2 T.m ++ [47] ++ d2 T.d ++ [47] ++ d2 (T.y % 100)) := bs_append (d2 T.m ++ [47] ++ d2 T.d ++ [47]) (d2 (T.y % 100))
  unfold OnePost StrPost at *
  generalize bs (d2 T.m ++ [47] ++ d2 T.d ++ [47] ++ d2 (T.y % 100)) = j3 at *
  generalize bs (d2 T.m ++ [47] ++ d2 T.d ++ [47]) = j2 at *
  generalize bs (d2 T.m ++ [47] ++ d2 T.d) = j1 at *
  generalize bs (d2 T.m ++ [47]) = j0 at *
  generalize bs (d2 (T.y % 100)) = k0 at *
  generalize bs (d2 T.d) = k1 at *
  generalize bs (d2 T.m) = k2 at *
  skip
  go_enter Tryz.func13, Tryz.ntmps13
  go_wp2_with ((go_at_call 21; go_loud (refine (HI _).mono ?_; rintro e w1 ⟨rfl, hb1⟩; have T1 := TB.out.keep hb1; have TC := Lib.hid (show TimeBox w1.drew T w.heap.size from T1); clear T1; have BC := Lib.hid ((BX.out.trans (hb1.mono BX.out.size)).trans (show Below w.heap.size w1 w1.drew from ⟨rfl, rfl, rfl, Nat.le_refl _, fun _ _ => rfl⟩)); obtain ⟨q0, q1, q2, q3, q4, q5, q6, q7, q8⟩ := TC.out.cells; clear hb1)))
  go_region_law (first | (go_simp; go_at_call 25; (first | with_reducible refine (P1 _).mono ?_ | with_reducible refine (P2 _).mono ?_ | with_reducible refine (P3 _).mono ?_); rintro e wa ⟨rfl, hba⟩; have TC := Lib.hid (TC.out.keep hba); have BC := Lib.hid (BC.out.trans (hba.mono BC.out.size)); obtain ⟨r0, r1, r2, r3, r4, r5, r6, r7, r8⟩ := TC.out.cells; clear hba; dsimp only))
  all_goals
    go_wp2
    go_ret2
    exact ⟨rfl, BC.out⟩

set_option maxRecDepth 100000 in
set_option maxHeartbeats 8000000 in
theorem one_85 (T : STime) (hR : RightT T) (w : World) : Calls Tryz.prog 13 #[.int .u8 85, .agg (timeCells T)] w (OnePost w (d2 ((ydT T + 6 - wdT T) / 7))) := by
  have HI := fun w => iso_sp T hR w
  have HY := fun w => yearDay_sp T hR w
  have HWd := fun w => weekDay_sp T hR w
  have HTw := fun w => twelve_sp T hR w
  have HHf := fun w => half_sp T hR w
  have HOf := fun w => offset_sp T.off w hR.o0 hR.o1
  have iyb := iyT_bd hR
  have ydb := ydT_bd hR
  have wdb := wdT_bd T
  have iwb := iwT_bd T
  have hy0 := hR.y0
  have hy1 := hR.y1
  have hm0 := hR.m0
  have hm1 := hR.m1
  have hd0 := hR.d0
  have hd1 := hR.dd
  have hh0 := hR.h0
  have hh1 := hR.h1
  have hn0 := hR.n0
  have hn1 := hR.n1
  have hs0 := hR.s0
  have hs1 := hR.s1
  have hbx : Below w.heap.size w (w.alloc (.cells (timeCells T) 25)) := (Below.refl _ _).alloc (Nat.le_refl _) _
  have TB := Lib.hid (TimeBox.new w T)
  have BX := Lib.hid hbx
  obtain ⟨g0, g1, g2, g3, g4, g5, g6, g7, g8⟩ := (TimeBox.new w T).cells
  clear hbx
  unfold timeCells at *
  generalize iyT T = iy at *
  generalize iwT T = iw at *
  generalize ydT T = yd at *
  generalize wdT T = wd at *
  have e1 : Int.tdiv (yd + 6 - wd) 7 = (yd + 6 - wd) / 7 := Int.tdiv_eq_ediv_of_nonneg (by omega)
  have yb : 0 ≤ (yd + 6 - wd) / 7 ∧ (yd + 6 - wd) / 7 ≤ 60 := by omega
  have w2785 : IntKind.i64.wrap (yd + 6) = yd + 6 := IntWalk.i64_in _ (by omega)
  have w1032 : IntKind.i64.wrap (yd + 6 - wd) = yd + 6 - wd := IntWalk.i64_in _ (by omega)
  have w8618 : IntKind.i64.wrap ((yd + 6 - wd) / 7) = (yd + 6 - wd) / 7 := IntWalk.i64_in _ (by omega)
  have P1 := fun w => p2_any ((yd + 6 - wd) / 7) w (by omega) (by omega)
  unfold StrPost at *
  skip
  go_enter Tryz.func13, Tryz.ntmps13
  go_wp2_with ((go_at_call 21; go_loud (refine (HI _).mono ?_; rintro e w1 ⟨rfl, hb1⟩; have T1 := TB.out.keep hb1; have TC := Lib.hid (show TimeBox w1.drew T w.heap.size from T1); clear T1; have BC := Lib.hid ((BX.out.trans (hb1.mono BX.out.size)).trans (show Below w.heap.size w1 w1.drew from ⟨rfl, rfl, rfl, Nat.le_refl _, fun _ _ => rfl⟩)); obtain ⟨q0, q1, q2, q3, q4, q5, q6, q7, q8⟩ := TC.out.cells; clear hb1)))
  go_region_law (first | (go_simp; go_at_call 27; first | with_reducible refine (HY _).mono ?_; rintro e wa ⟨rfl, hba⟩; have TC := Lib.hid (TC.out.keep hba); have BC := Lib.hid (BC.out.trans (hba.mono BC.out.size)); obtain ⟨r0, r1, r2, r3, r4, r5, r6, r7, r8⟩ := TC.out.cells; clear hba; dsimp only) | (go_simp; go_at_call 23; first | with_reducible refine (HWd _).mono ?_; rintro e wa ⟨rfl, hba⟩; have TC := Lib.hid (TC.out.keep hba); have BC := Lib.hid (BC.out.trans (hba.mono BC.out.size)); obtain ⟨r0, r1, r2, r3, r4, r5, r6, r7, r8⟩ := TC.out.cells; clear hba; dsimp only) | (go_simp; go_at_call 25; first | with_reducible refine (P1 _).mono ?_; rintro e wa ⟨rfl, hba⟩; have TC := Lib.hid (TC.out.keep hba); have BC := Lib.hid (BC.out.trans (hba.mono BC.out.size)); obtain ⟨r0, r1, r2, r3, r4, r5, r6, r7, r8⟩ := TC.out.cells; clear hba; dsimp only))
  all_goals
    go_wp2
    go_ret2
    exact ⟨rfl, BC.out⟩

set_option maxRecDepth 100000 in
set_option maxHeartbeats 8000000 in
theorem one_87 (T : STime) (hR : RightT T) (w : World) : Calls Tryz.prog 13 #[.int .u8 87, .agg (timeCells T)] w (OnePost w (d2 ((ydT T + 6 - (wdT T + 6) % 7) / 7))) := by
  have HI := fun w => iso_sp T hR w
  have HY := fun w => yearDay_sp T hR w
  have HWd := fun w => weekDay_sp T hR w
  have HTw := fun w => twelve_sp T hR w
  have HHf := fun w => half_sp T hR w
  have HOf := fun w => offset_sp T.off w hR.o0 hR.o1
  have iyb := iyT_bd hR
  have ydb := ydT_bd hR
  have wdb := wdT_bd T
  have iwb := iwT_bd T
  have hy0 := hR.y0
  have hy1 := hR.y1
  have hm0 := hR.m0
  have hm1 := hR.m1
  have hd0 := hR.d0
  have hd1 := hR.dd
  have hh0 := hR.h0
  have hh1 := hR.h1
  have hn0 := hR.n0
  have hn1 := hR.n1
  have hs0 := hR.s0
  have hs1 := hR.s1
  have hbx : Below w.heap.size w (w.alloc (.cells (timeCells T) 25)) := (Below.refl _ _).alloc (Nat.le_refl _) _
  have TB := Lib.hid (TimeBox.new w T)
  have BX := Lib.hid hbx
  obtain ⟨g0, g1, g2, g3, g4, g5, g6, g7, g8⟩ := (TimeBox.new w T).cells
  clear hbx
  unfold timeCells at *
  generalize iyT T = iy at *
  generalize iwT T = iw at *
  generalize ydT T = yd at *
  generalize wdT T = wd at *
  have e0 : Int.tmod (wd + 6) 7 = (wd + 6) % 7 := Int.tmod_eq_emod_of_nonneg (by omega)
  have wb : 0 ≤ (wd + 6) % 7 ∧ (wd + 6) % 7 ≤ 6 := by omega
  have e1 : Int.tdiv (yd + 6 - (wd + 6) % 7) 7 = (yd + 6 - (wd + 6) % 7) / 7 := Int.tdiv_eq_ediv_of_nonneg (by omega)
  have yb : 0 ≤ (yd + 6 - (wd + 6) % 7) / 7 ∧ (yd + 6 - (wd + 6) % 7) / 7 ≤ 60 := by omega
  have w2785 : IntKind.i64.wrap (yd + 6) = yd + 6 := IntWalk.i64_in _ (by omega)
  have w7280 : IntKind.i64.wrap (wd + 6) = wd + 6 := IntWalk.i64_in _ (by omega)
  have w2880 : IntKind.i64.wrap ((wd + 6) % 7) = (wd + 6) % 7 := IntWalk.i64_in _ (by omega)
  have w2442 : IntKind.i64.wrap (yd + 6 - (wd + 6) % 7) = yd + 6 - (wd + 6) % 7 := IntWalk.i64_in _ (by omega)
  have w3423 : IntKind.i64.wrap ((yd + 6 - (wd + 6) % 7) / 7) = (yd + 6 - (wd + 6) % 7) / 7 := IntWalk.i64_in _ (by omega)
  have P1 := fun w => p2_any ((yd + 6 - (wd + 6) % 7) / 7) w (by omega) (by omega)
  unfold StrPost at *
  skip
  go_enter Tryz.func13, Tryz.ntmps13
  go_wp2_with ((go_at_call 21; go_loud (refine (HI _).mono ?_; rintro e w1 ⟨rfl, hb1⟩; have T1 := TB.out.keep hb1; have TC := Lib.hid (show TimeBox w1.drew T w.heap.size from T1); clear T1; have BC := Lib.hid ((BX.out.trans (hb1.mono BX.out.size)).trans (show Below w.heap.size w1 w1.drew from ⟨rfl, rfl, rfl, Nat.le_refl _, fun _ _ => rfl⟩)); obtain ⟨q0, q1, q2, q3, q4, q5, q6, q7, q8⟩ := TC.out.cells; clear hb1)))
  go_region_law (first | (go_simp; go_at_call 27; first | with_reducible refine (HY _).mono ?_; rintro e wa ⟨rfl, hba⟩; have TC := Lib.hid (TC.out.keep hba); have BC := Lib.hid (BC.out.trans (hba.mono BC.out.size)); obtain ⟨r0, r1, r2, r3, r4, r5, r6, r7, r8⟩ := TC.out.cells; clear hba; dsimp only) | (go_simp; go_at_call 23; first | with_reducible refine (HWd _).mono ?_; rintro e wa ⟨rfl, hba⟩; have TC := Lib.hid (TC.out.keep hba); have BC := Lib.hid (BC.out.trans (hba.mono BC.out.size)); obtain ⟨r0, r1, r2, r3, r4, r5, r6, r7, r8⟩ := TC.out.cells; clear hba; dsimp only) | (go_simp; go_at_call 25; first | with_reducible refine (P1 _).mono ?_; rintro e wa ⟨rfl, hba⟩; have TC := Lib.hid (TC.out.keep hba); have BC := Lib.hid (BC.out.trans (hba.mono BC.out.size)); obtain ⟨r0, r1, r2, r3, r4, r5, r6, r7, r8⟩ := TC.out.cells; clear hba; dsimp only))
  all_goals
    go_wp2
    go_ret2
    exact ⟨rfl, BC.out⟩
end Go.Proofs.YtkcgngpoegglnaaGreatDoor
