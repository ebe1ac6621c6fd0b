/- The reference: which times are compared (printed by gen_spi.py). · The law of a format (printed by gen_lawb.py). -/
import Derived.Deep.RegionLaw
import Derived.BigQuiet
import Derived.Deep.RegionHeld3
import Derived.Test.YtkcgngpoegglnaaGreatDoorM42
import Derived.Test.YtkcgngpoegglnaaGreatDoorM45
import Derived.Test.YtkcgngpoegglnaaGreatDoorM23
/- The reference: which times are compared (printed by gen_spi.py). -/
section
namespace Go.Proofs.YtkcgngpoegglnaaGreatDoor
open Go Go.RowKit
set_option linter.unusedVariables false
set_option linter.unusedSimpArgs false

/-- the end of Right's call. -/
def RightRes (T : STime) (w : World) (e : Ending) (w' : World) : Prop := ∃ b : Bool, e = .returned (.bool b) ∧ (b = true → RightT T) ∧ Below w.heap.size w w'

theorem below_drewN' (w : World) (k : Nat) : Below w.heap.size w (w.drewN k) := ⟨rfl, rfl, rfl, Nat.le_refl _, fun _ _ => rfl⟩

/-- what holds in the region's worlds. -/
def HoldT (T : STime) (w : World) (W : World) : Prop := TimeBox W T w.heap.size ∧ Below w.heap.size w W

/-- what holds at the head of a round. -/
def RtI (T : STime) (w : World) (t40 : Value) (W : World) : Prop := ∃ i : Nat, t40 = .int .i64 i ∧ i ≤ T.nm.size ∧ (∀ c ∈ T.nm.data.toList.take i, zoneCh c = true) ∧ HoldT T w W

theorem take_next (l : List UInt8) (i : Nat) (h : i < l.length) (hz : ∀ c ∈ l.take i, zoneCh c = true) (hc : zoneCh l[i] = true) : ∀ c ∈ l.take (i + 1), zoneCh c = true := by
  intro c hm
  rw [List.take_succ_eq_append_getElem h] at hm
  rcases List.mem_append.1 hm with hm | hm
  · exact hz c hm
  · rw [List.mem_singleton] at hm; rw [hm]; exact hc

set_option maxRecDepth 100000 in
set_option maxHeartbeats 8000000 in
theorem right_sp (T : STime) (w : World) (hz : T.nm.size ≤ 2147483647) : Calls Tryz.prog 7 #[.agg (timeCells T)] w (RightRes T w) := by
  have hbx : Below w.heap.size w (w.alloc (.cells (timeCells T) 25)) := (Below.refl _ _).alloc (Nat.le_refl _) _
  have TB := Lib.hid (TimeBox.new w T)
  have BX := Lib.hid hbx
  obtain ⟨g0, g1, g2, g3, g4, g5, g6, g7, g8⟩ := (TimeBox.new w T).cells
  clear hbx
  unfold timeCells at *
  by_cases c0 : T.y < 1
  · have d0 : decide (T.y < 1) = true := decide_eq_true c0
    go_enter Tryz.func7, Tryz.ntmps7
    go_wp2_with (fail)
    go_quiet (fail)
    go_wp2
    go_ret
    exact ⟨false, rfl, by simp, BX.out.trans ((below_drewN' _ _).mono BX.out.size)⟩
  have n0 : decide (T.y < 1) = false := decide_eq_false c0
  by_cases c1 : 9999 < T.y
  · have d1 : decide (9999 < T.y) = true := decide_eq_true c1
    go_enter Tryz.func7, Tryz.ntmps7
    go_wp2_with (fail)
    go_quiet (fail)
    go_wp2
    go_ret
    exact ⟨false, rfl, by simp, BX.out.trans ((below_drewN' _ _).mono BX.out.size)⟩
  have n1 : decide (9999 < T.y) = false := decide_eq_false c1
  by_cases c2 : T.m < 1
  · have d2 : decide (T.m < 1) = true := decide_eq_true c2
    go_enter Tryz.func7, Tryz.ntmps7
    go_wp2_with (fail)
    go_quiet (fail)
    go_wp2
    go_ret
    exact ⟨false, rfl, by simp, BX.out.trans ((below_drewN' _ _).mono BX.out.size)⟩
  have n2 : decide (T.m < 1) = false := decide_eq_false c2
  by_cases c3 : 12 < T.m
  · have d3 : decide (12 < T.m) = true := decide_eq_true c3
    go_enter Tryz.func7, Tryz.ntmps7
    go_wp2_with (fail)
    go_quiet (fail)
    go_wp2
    go_ret
    exact ⟨false, rfl, by simp, BX.out.trans ((below_drewN' _ _).mono BX.out.size)⟩
  have n3 : decide (12 < T.m) = false := decide_eq_false c3
  by_cases c4 : T.d < 1
  · have d4 : decide (T.d < 1) = true := decide_eq_true c4
    go_enter Tryz.func7, Tryz.ntmps7
    go_wp2_with (fail)
    go_quiet (fail)
    go_wp2
    go_ret
    exact ⟨false, rfl, by simp, BX.out.trans ((below_drewN' _ _).mono BX.out.size)⟩
  have n4 : decide (T.d < 1) = false := decide_eq_false c4
  have HL := fun w => length_any T.y T.m w (by omega) (by omega) (by omega) (by omega)
  have hlb := lenM_bd T.y T.m
  by_cases c5 : lenM T.y T.m < T.d
  · have d5 : decide (lenM T.y T.m < T.d) = true := decide_eq_true c5
    generalize lenM T.y T.m = lm at *
    have H0 : HoldT T w (w.alloc (.cells (timeCells T) 25)).drew := ⟨TB.out, BX.out.trans ⟨rfl, rfl, rfl, Nat.le_refl _, fun _ _ => rfl⟩⟩
    unfold timeCells at H0
    have HH := Lib.hid H0
    go_enter Tryz.func7, Tryz.ntmps7
    go_wp2_with (fail)
    go_region_held3 (fun W => W.cell? ⟨w.heap.size, 0, none⟩ = some (.int .i64 T.y) ∧ W.cell? ⟨w.heap.size, 1, none⟩ = some (.int .i64 T.m) ∧ W.cell? ⟨w.heap.size, 2, none⟩ = some (.int .i64 T.d) ∧ HoldT T w W) (first | exact ⟨g0, g1, g2, H0⟩ | exact ⟨q0, q1, q2, H1⟩) (first | (go_at_call 12; refine (HL _).mono ?_; rintro e w1 ⟨rfl, hb1⟩; have H1 : HoldT T w w1 := ⟨HH.out.1.keep hb1, HH.out.2.trans (hb1.mono HH.out.2.size)⟩; obtain ⟨q0, q1, q2, q3, q4, q5, q6, q7, q8⟩ := H1.1.cells; dsimp only))
    go_wp2
    go_ret
    exact ⟨false, rfl, by simp, H1.2⟩
  · have d5 : decide (lenM T.y T.m < T.d) = false := decide_eq_false c5
    have HD := Lib.hid (show T.d ≤ lenM T.y T.m by omega)
    generalize lenM T.y T.m = lm at d5 c5 hlb HL
    have H0 : HoldT T w (w.alloc (.cells (timeCells T) 25)).drew := ⟨TB.out, BX.out.trans ⟨rfl, rfl, rfl, Nat.le_refl _, fun _ _ => rfl⟩⟩
    unfold timeCells at H0
    have HH := Lib.hid H0
    go_enter Tryz.func7, Tryz.ntmps7
    go_wp2_with (fail)
    go_region_held3 (fun W => W.cell? ⟨w.heap.size, 0, none⟩ = some (.int .i64 T.y) ∧ W.cell? ⟨w.heap.size, 1, none⟩ = some (.int .i64 T.m) ∧ W.cell? ⟨w.heap.size, 2, none⟩ = some (.int .i64 T.d) ∧ HoldT T w W) (first | exact ⟨g0, g1, g2, H0⟩ | exact ⟨q0, q1, q2, H1⟩) (first | (go_at_call 12; refine (HL _).mono ?_; rintro e w1 ⟨rfl, hb1⟩; have H1 : HoldT T w w1 := ⟨HH.out.1.keep hb1, HH.out.2.trans (hb1.mono HH.out.2.size)⟩; obtain ⟨q0, q1, q2, q3, q4, q5, q6, q7, q8⟩ := H1.1.cells; dsimp only))
    have HH1 := Lib.hid H1
    have HTB := Lib.hid TB
    have I0 := Lib.hid (show RtI T w (.int .i64 0) w1 from ⟨0, rfl, Nat.zero_le _, by simp, H1⟩)
    have HC := Lib.hid (And.intro c0 (And.intro c1 (And.intro c2 (And.intro c3 c4))))
    clear H0 HH H1 TB BX HL
    go_wp2
    go_loopw [40] (fun t40 wr => RtI T w t40 wr) (fun t40 _ => T.nm.size - (intOf t40).toNat)
    case atStart => exact I0.out
    case round =>
      obtain ⟨i, rfl, hi, hzo, hH⟩ := hrel
      obtain ⟨r0, r1, r2, r3, r4, r5, r6, r7, r8⟩ := hH.1.cells
      have HX := Lib.hid hH
      have HZ := Lib.hid hzo
      have hlt0 := lt_of_block hH.1
      clear hH hzo I0 q0 q1 q2 q3 q4 q5 q6 q7 q8
      by_cases hlt : i < T.nm.size
      · have hll : i < T.nm.data.toList.length := hlt
        have hlti : (i : Int) < (T.nm.size : Int) := by omega
        obtain ⟨c, hc⟩ : ∃ c, c = T.nm.data.toList[i] := ⟨_, rfl⟩
        have hget : ∀ (h : i < T.nm.size), T.nm[i] = c := fun h => hc.symm
        have HN : zoneCh c = true → ∀ c ∈ T.nm.data.toList.take (i + 1), zoneCh c = true := fun h => take_next T.nm.data.toList i hll HZ.out (hc ▸ h)
        clear hc hll
        by_cases k0 : (c.toNat : Int) < 65
        · go_wp2
          go_ret
          exact ⟨false, rfl, by simp, HX.out.2⟩
        · by_cases k1 : 90 < (c.toNat : Int)
          · go_wp2
            go_ret
            exact ⟨false, rfl, by simp, HX.out.2⟩
          · have HN2 := Lib.hid (HN (by unfold zoneCh; simp only [Bool.and_eq_true, decide_eq_true_eq]; omega))
            clear HN
            go_wp2
            go_roundw
            case rel => exact ⟨i + 1, by go_num, by omega, HN2.out, HX.out⟩
            case measure => simp [intOf]; omega
      · have hnl : ¬ (i : Int) < (T.nm.size : Int) := by omega
        have hall : ∀ c ∈ T.nm.data.toList, zoneCh c = true := by
          have h2 := HZ.out
          rw [List.take_of_length_le (by show T.nm.data.size ≤ i; have : T.nm.data.size = T.nm.size := rfl; omega)] at h2
          exact h2
        have HA := Lib.hid hall
        clear hall
        by_cases e0 : 0 ≤ T.hh
        case neg =>
          go_wp2
          go_ret
          exact ⟨false, rfl, by simp, HX.out.2⟩
        by_cases e1 : T.hh < 24
        case neg =>
          go_wp2
          go_ret
          exact ⟨false, rfl, by simp, HX.out.2⟩
        by_cases e2 : 0 ≤ T.mm
        case neg =>
          go_wp2
          go_ret
          exact ⟨false, rfl, by simp, HX.out.2⟩
        by_cases e3 : T.mm < 60
        case neg =>
          go_wp2
          go_ret
          exact ⟨false, rfl, by simp, HX.out.2⟩
        by_cases e4 : 0 ≤ T.ss
        case neg =>
          go_wp2
          go_ret
          exact ⟨false, rfl, by simp, HX.out.2⟩
        by_cases e5 : T.ss < 60
        case neg =>
          go_wp2
          go_ret
          exact ⟨false, rfl, by simp, HX.out.2⟩
        by_cases e6 : 0 ≤ T.ns
        case neg =>
          go_wp2
          go_ret
          exact ⟨false, rfl, by simp, HX.out.2⟩
        by_cases e7 : T.ns < 1000000000
        case neg =>
          go_wp2
          go_ret
          exact ⟨false, rfl, by simp, HX.out.2⟩
        by_cases e8 : -50400 ≤ T.off
        case neg =>
          go_wp2
          go_ret
          exact ⟨false, rfl, by simp, HX.out.2⟩
        by_cases e9 : T.off ≤ 50400
        case neg =>
          go_wp2
          go_ret
          exact ⟨false, rfl, by simp, HX.out.2⟩
        by_cases e10 : (Int.tmod T.off 60 == 0) = true
        case neg =>
          have e10' : (Int.tmod T.off 60 == 0) = false := by simpa using e10
          clear e10
          go_wp2
          go_ret
          exact ⟨false, rfl, by simp, HX.out.2⟩
        by_cases e11 : (3 : Int) ≤ (T.nm.size : Int)
        case neg =>
          go_wp2
          go_ret
          exact ⟨false, rfl, by simp, HX.out.2⟩
        by_cases e12 : (T.nm.size : Int) ≤ 4
        case neg =>
          go_wp2
          go_ret
          exact ⟨false, rfl, by simp, HX.out.2⟩
        go_wp2
        go_ret
        refine ⟨true, rfl, fun _ => ?_, HX.out.2⟩
        obtain ⟨a0, a1, a2, a3, a4⟩ := HC.out
        have hoff : T.off % 60 = 0 := by
          have h : Int.tmod T.off 60 = 0 := by simpa using e10
          have := Int.dvd_of_tmod_eq_zero h
          omega
        exact ⟨by omega, by omega, by omega, by omega, by omega, HD.out, by omega, by omega, by omega, by omega, by omega, by omega, by omega, by omega, by omega, by omega, hoff, HA.out, by omega, by omega⟩
end Go.Proofs.YtkcgngpoegglnaaGreatDoor
end
/- The law of a format (printed by gen_lawb.py). -/
section
namespace Go.Proofs.YtkcgngpoegglnaaGreatDoor
open Go Go.RowKit
set_option linter.unusedVariables false
set_option linter.unusedSimpArgs false

theorem textF_len {T : STime} (hR : RightT T) : ∀ (n : Nat) (l X : List UInt8), l.length ≤ n → textF T l = some X → X.length ≤ 100 * l.length
  | _, [], X, _, h => by
    rw [textF] at h; rw [← Option.some.inj h]; simp
  | 0, b :: l, X, hn, h => by simp at hn
  | n + 1, b :: l, X, hn, h => by
    by_cases hb : b = 37
    · subst hb
      obtain ⟨c, r, x1, x2, rfl, h1, h2, rfl⟩ := textF_dir h
      have a := oneF_len hR h1
      have b := textF_len hR n r x2 (by simp at hn; omega) h2
      simp; omega
    · obtain ⟨x', rfl, h2, _⟩ := textF_lit h hb
      have b := textF_len hR n l x' (by simp at hn; omega) h2
      simp; omega

set_option maxRecDepth 100000 in
set_option maxHeartbeats 8000000 in
theorem fnFormat_any (which : Int) (l : List UInt8) (T : STime) (w : World) (hB : Base w) : Calls Tryz.prog 3 #[.int .i64 which, .string (bs l), .agg (timeCells T)] w fun e w' => e = .returned (.bool true) ∧ Below w.heap.size w w' := by
  have hsz := bs_size l
  obtain ⟨g0, g1, g2, g3, g4, g5, g6, g7, g8⟩ := box23 w T
  have HF := fun w => fits_any T w
  have HM := fun w => lawMoment_any T w
  have HR := fun w hz => right_sp T w hz
  have hbx : Below w.heap.size w (w.alloc (.cells (timeCells T) 23)) := (Below.refl _ _).alloc (Nat.le_refl _) _
  have BX := Lib.hid hbx
  clear hbx
  by_cases hbig : (2147483647 : Int) < (l.length : Int)
  · unfold timeCells at *
    go_enter Tryz.func3, Tryz.ntmps3
    go_wp2
    go_ret
    exact ⟨rfl, BX.out⟩
  by_cases hnm : T.nm.size ≤ 2147483647
  case neg =>
    rw [decide_eq_false hnm] at HF
    unfold timeCells at *
    go_enter Tryz.func3, Tryz.ntmps3
    go_wp2_with (go_at_call 5; refine (HF _).mono ?_; rintro e w1 ⟨rfl, hb1⟩; have B1 := Lib.hid (BX.out.trans (hb1.mono BX.out.size)))
    go_ret
    exact ⟨rfl, B1.out⟩
  rw [decide_eq_true hnm] at HF
  have TB := Lib.hid (new_block w (.cells (timeCells T) 23))
  unfold timeCells at HF HM HR ⊢
  by_cases hw0 : which < 0
  · go_enter Tryz.func3, Tryz.ntmps3
    go_wp2_with (first | (go_at_call 5; refine (HF _).mono ?_; rintro e w1 ⟨rfl, hb1⟩; obtain ⟨hc1, hf1⟩ := bcell hb1; have B1 := Lib.hid (BX.out.trans (hb1.mono BX.out.size)); have S1 := Lib.hid hb1; clear hb1) | (go_at_call 6; refine (HM _).mono ?_; rintro e w2 ⟨rfl, hb2⟩; have B2 := Lib.hid (B1.out.trans (hb2.mono B1.out.size)); have S2 := Lib.hid (S1.out.trans (hb2.mono S1.out.size)); have BC := Lib.hid (B2.out.alloc B2.out.size (.cells (timeCells T) 25)); have N2 := new_block w2 (.cells (timeCells T) 25); have TC := Lib.hid N2; clear hb2 N2) | (go_at_call 8; refine (works_any _ (hB.below BC.out)).mono ?_; rintro e wz ⟨rfl, hbz⟩; have BZ := Lib.hid (BC.out.trans (hbz.mono BC.out.size)); clear hbz))
    go_ret
    exact ⟨rfl, BZ.out⟩
  by_cases hw1 : 1 < which
  · go_enter Tryz.func3, Tryz.ntmps3
    go_wp2_with (first | (go_at_call 5; refine (HF _).mono ?_; rintro e w1 ⟨rfl, hb1⟩; obtain ⟨hc1, hf1⟩ := bcell hb1; have B1 := Lib.hid (BX.out.trans (hb1.mono BX.out.size)); have S1 := Lib.hid hb1; clear hb1) | (go_at_call 6; refine (HM _).mono ?_; rintro e w2 ⟨rfl, hb2⟩; have B2 := Lib.hid (B1.out.trans (hb2.mono B1.out.size)); have S2 := Lib.hid (S1.out.trans (hb2.mono S1.out.size)); have BC := Lib.hid (B2.out.alloc B2.out.size (.cells (timeCells T) 25)); have N2 := new_block w2 (.cells (timeCells T) 25); have TC := Lib.hid N2; clear hb2 N2) | (go_at_call 8; refine (works_any _ (hB.below BC.out)).mono ?_; rintro e wz ⟨rfl, hbz⟩; have BZ := Lib.hid (BC.out.trans (hbz.mono BC.out.size)); clear hbz))
    go_ret
    exact ⟨rfl, BZ.out⟩
  have hwc : which = 0 ∨ which = 1 := by omega
  clear hw0 hw1
  rcases hwc with rfl | rfl
  · go_enter Tryz.func3, Tryz.ntmps3
    go_wp2_with (first | (go_at_call 5; refine (HF _).mono ?_; rintro e w1 ⟨rfl, hb1⟩; obtain ⟨hc1, hf1⟩ := bcell hb1; have B1 := Lib.hid (BX.out.trans (hb1.mono BX.out.size)); have S1 := Lib.hid hb1; clear hb1) | (go_at_call 6; refine (HM _).mono ?_; rintro e w2 ⟨rfl, hb2⟩; have B2 := Lib.hid (B1.out.trans (hb2.mono B1.out.size)); have S2 := Lib.hid (S1.out.trans (hb2.mono S1.out.size)); have BC := Lib.hid (B2.out.alloc B2.out.size (.cells (timeCells T) 25)); have N2 := new_block w2 (.cells (timeCells T) 25); have TC := Lib.hid N2; clear hb2 N2))
    go_at_call 7
    refine (HR _ hnm).mono ?_
    rintro e w3 ⟨b, rfl, hr, hb3⟩
    obtain ⟨hc3, hf3⟩ := bcell hb3
    have BC' := Lib.hid (BC.out.trans (hb3.mono BC.out.size))
    have SC := Lib.hid hb3
    clear hb3
    cases b
    · dsimp only
      have BC := BC'
      go_wp2_with (first | (go_at_call 8; refine (works_any _ (hB.below BC.out)).mono ?_; rintro e wz ⟨rfl, hbz⟩; have BZ := Lib.hid (BC.out.trans (hbz.mono BC.out.size)); clear hbz))
      go_ret
      exact ⟨rfl, BZ.out⟩
    have hR := hr rfl
    dsimp only
    go_wp2_with (fail)
    refine (text_sp T hR l (by omega) _).mono ?_
    rintro e w4 ⟨hb4, rfl⟩
    have S3 := S2.out.alloc S2.out.size (.cells (timeCells T) 25)
    have S4 := (S3.trans (SC.out.mono S3.size)).trans (hb4.mono (Nat.le_trans S3.size SC.out.size))
    have k4 := (S4.block w.heap.size (by simp)).trans TB.out
    have BC4 := Lib.hid (BC'.out.trans (hb4.mono BC'.out.size))
    cases hg : textG T l with
    | none =>
      have BC := BC4
      dsimp only
      clear k4 S3 S4 hb4
      go_wp2_with (first | (go_at_call 8; refine (works_any _ (hB.below BC.out)).mono ?_; rintro e wz ⟨rfl, hbz⟩; have BZ := Lib.hid (BC.out.trans (hbz.mono BC.out.size)); clear hbz))
      go_ret
      exact ⟨rfl, BZ.out⟩
    | some X =>
      have hl60 : l.length ≤ 60 := by
        unfold textG at hg
        by_cases h : l.length ≤ 60
        · exact h
        · rw [if_neg h] at hg; cases hg
      have hx : textF T l = some X := by unfold textG at hg; rwa [if_pos hl60] at hg
      have hX : X.length ≤ 400000 := by have := textF_len hR l.length l X (Nat.le_refl _) hx; omega
      have e0 := cell_of_row w4 w.heap.size 0 _ _ _ k4
      have e1 := cell_of_row w4 w.heap.size 1 _ _ _ k4
      have e2 := cell_of_row w4 w.heap.size 2 _ _ _ k4
      have e3 := cell_of_row w4 w.heap.size 3 _ _ _ k4
      have e4 := cell_of_row w4 w.heap.size 4 _ _ _ k4
      have e5 := cell_of_row w4 w.heap.size 5 _ _ _ k4
      have e6 := cell_of_row w4 w.heap.size 6 _ _ _ k4
      have e7 := cell_of_row w4 w.heap.size 7 _ _ _ k4
      have e8 := cell_of_row w4 w.heap.size 8 _ _ _ k4
      simp only [timeCells, List.getElem?_toArray, List.getElem?_cons_zero, List.getElem?_cons_succ] at e0 e1 e2 e3 e4 e5 e6 e7 e8
      have l4 := lt_of_block k4
      clear k4 S3 S4 hb4 hg
      dsimp only
      by_cases hf : firstF l = true
      case neg =>
        have hf : firstF l = false := by simpa using hf
        have FS := fun w => first_sp l (by omega) w
        rw [hf] at FS
        have BC := BC4
        go_wp2_with (first | (go_at_call 10; refine (FS _).mono ?_; rintro e w4' ⟨rfl, rfl⟩) | (go_at_call 8; refine (works_any _ (hB.below BC.out)).mono ?_; rintro e wz ⟨rfl, hbz⟩; have BZ := Lib.hid (BC.out.trans (hbz.mono BC.out.size)); clear hbz))
        go_ret
        exact ⟨rfl, BZ.out⟩
      have HW : ((0 : Int) = 0 ∧ firstF l = true) ∨ (0 : Int) = 1 := .inl ⟨rfl, hf⟩
      have FS := fun w => first_sp l (by omega) w
      rw [hf] at FS
      have HI : Calls Tryz.prog 11 #[.int .i64 0, .string (bs l), .agg (timeCells T)] w4 fun e w' => e = .returned (.tuple #[.string (bs X), .bool true]) ∧ Below w4.heap.size w4 w' := impl_any T hR w4 (hB.below BC4.out) 0 l X hx HW hl60 hX
      unfold timeCells at HI
      go_wp2_with (first | (go_at_call 10; refine (FS _).mono ?_; rintro e w4' ⟨rfl, rfl⟩) | (go_at_call 11; refine HI.mono ?_; rintro e w5 ⟨rfl, hb5⟩; have BC := Lib.hid (BC4.out.trans (hb5.mono BC4.out.size)); clear hb5) | (go_at_call 8; refine (works_any _ (hB.below BC.out)).mono ?_; rintro e wz ⟨rfl, hbz⟩; have BZ := Lib.hid (BC.out.trans (hbz.mono BC.out.size)); clear hbz))
      go_ret
      exact ⟨rfl, BZ.out⟩
  · go_enter Tryz.func3, Tryz.ntmps3
    go_wp2_with (first | (go_at_call 5; refine (HF _).mono ?_; rintro e w1 ⟨rfl, hb1⟩; obtain ⟨hc1, hf1⟩ := bcell hb1; have B1 := Lib.hid (BX.out.trans (hb1.mono BX.out.size)); have S1 := Lib.hid hb1; clear hb1) | (go_at_call 6; refine (HM _).mono ?_; rintro e w2 ⟨rfl, hb2⟩; have B2 := Lib.hid (B1.out.trans (hb2.mono B1.out.size)); have S2 := Lib.hid (S1.out.trans (hb2.mono S1.out.size)); have BC := Lib.hid (B2.out.alloc B2.out.size (.cells (timeCells T) 25)); have N2 := new_block w2 (.cells (timeCells T) 25); have TC := Lib.hid N2; clear hb2 N2))
    go_at_call 7
    refine (HR _ hnm).mono ?_
    rintro e w3 ⟨b, rfl, hr, hb3⟩
    obtain ⟨hc3, hf3⟩ := bcell hb3
    have BC' := Lib.hid (BC.out.trans (hb3.mono BC.out.size))
    have SC := Lib.hid hb3
    clear hb3
    cases b
    · dsimp only
      have BC := BC'
      go_wp2_with (first | (go_at_call 8; refine (works_any _ (hB.below BC.out)).mono ?_; rintro e wz ⟨rfl, hbz⟩; have BZ := Lib.hid (BC.out.trans (hbz.mono BC.out.size)); clear hbz))
      go_ret
      exact ⟨rfl, BZ.out⟩
    have hR := hr rfl
    dsimp only
    go_wp2_with (fail)
    refine (text_sp T hR l (by omega) _).mono ?_
    rintro e w4 ⟨hb4, rfl⟩
    have S3 := S2.out.alloc S2.out.size (.cells (timeCells T) 25)
    have S4 := (S3.trans (SC.out.mono S3.size)).trans (hb4.mono (Nat.le_trans S3.size SC.out.size))
    have k4 := (S4.block w.heap.size (by simp)).trans TB.out
    have BC4 := Lib.hid (BC'.out.trans (hb4.mono BC'.out.size))
    cases hg : textG T l with
    | none =>
      have BC := BC4
      dsimp only
      clear k4 S3 S4 hb4
      go_wp2_with (first | (go_at_call 8; refine (works_any _ (hB.below BC.out)).mono ?_; rintro e wz ⟨rfl, hbz⟩; have BZ := Lib.hid (BC.out.trans (hbz.mono BC.out.size)); clear hbz))
      go_ret
      exact ⟨rfl, BZ.out⟩
    | some X =>
      have hl60 : l.length ≤ 60 := by
        unfold textG at hg
        by_cases h : l.length ≤ 60
        · exact h
        · rw [if_neg h] at hg; cases hg
      have hx : textF T l = some X := by unfold textG at hg; rwa [if_pos hl60] at hg
      have hX : X.length ≤ 400000 := by have := textF_len hR l.length l X (Nat.le_refl _) hx; omega
      have e0 := cell_of_row w4 w.heap.size 0 _ _ _ k4
      have e1 := cell_of_row w4 w.heap.size 1 _ _ _ k4
      have e2 := cell_of_row w4 w.heap.size 2 _ _ _ k4
      have e3 := cell_of_row w4 w.heap.size 3 _ _ _ k4
      have e4 := cell_of_row w4 w.heap.size 4 _ _ _ k4
      have e5 := cell_of_row w4 w.heap.size 5 _ _ _ k4
      have e6 := cell_of_row w4 w.heap.size 6 _ _ _ k4
      have e7 := cell_of_row w4 w.heap.size 7 _ _ _ k4
      have e8 := cell_of_row w4 w.heap.size 8 _ _ _ k4
      simp only [timeCells, List.getElem?_toArray, List.getElem?_cons_zero, List.getElem?_cons_succ] at e0 e1 e2 e3 e4 e5 e6 e7 e8
      have l4 := lt_of_block k4
      clear k4 S3 S4 hb4 hg
      dsimp only
      have HW : ((1 : Int) = 0 ∧ firstF l = true) ∨ (1 : Int) = 1 := .inr rfl
      have HI : Calls Tryz.prog 11 #[.int .i64 1, .string (bs l), .agg (timeCells T)] w4 fun e w' => e = .returned (.tuple #[.string (bs X), .bool true]) ∧ Below w4.heap.size w4 w' := impl_any T hR w4 (hB.below BC4.out) 1 l X hx HW hl60 hX
      unfold timeCells at HI
      go_wp2_with (first | (go_at_call 11; refine HI.mono ?_; rintro e w5 ⟨rfl, hb5⟩; have BC := Lib.hid (BC4.out.trans (hb5.mono BC4.out.size)); clear hb5) | (go_at_call 8; refine (works_any _ (hB.below BC.out)).mono ?_; rintro e wz ⟨rfl, hbz⟩; have BZ := Lib.hid (BC.out.trans (hbz.mono BC.out.size)); clear hbz))
      go_ret
      exact ⟨rfl, BZ.out⟩
end Go.Proofs.YtkcgngpoegglnaaGreatDoor
end
