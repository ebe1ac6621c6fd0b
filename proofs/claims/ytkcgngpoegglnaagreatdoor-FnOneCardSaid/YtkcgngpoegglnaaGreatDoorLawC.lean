/- The law of a directive (printed by gen_lawc.py). -/
import Derived.Test.YtkcgngpoegglnaaGreatDoorM46
import Derived.Test.YtkcgngpoegglnaaGreatDoorM45
import Derived.Test.YtkcgngpoegglnaaGreatDoorM23
namespace Go.Proofs.YtkcgngpoegglnaaGreatDoor
open Go Go.RowKit
set_option linter.unusedVariables false
set_option linter.unusedSimpArgs false

set_option maxRecDepth 100000 in
set_option maxHeartbeats 8000000 in
theorem fnOne_any (which : Int) (c : UInt8) (T : STime) (w : World) (hB : Base w) : Calls Tryz.prog 4 #[.int .i64 which, .int .u8 c.toNat, .agg (timeCells T)] w fun e w' => e = .returned (.bool true) ∧ Below w.heap.size w w' := by
  obtain ⟨l, hl⟩ : ∃ l : List UInt8, l = [37, c] := ⟨_, rfl⟩
  have hll : l.length = 2 := by rw [hl]; rfl
  have hap : (ByteArray.mk #[37]) ++ bs [c] = bs l := by rw [hl]; exact bs_append [37] [c]
  have hsum : ¬ (9223372036854775807 < 1 + (bs [c]).size) := by rw [bs_size]; simp
  have hcv := fun w => conv_one w c
  have LL := Lib.hid hll
  clear hl hll
  generalize bs [c] = u at *
  obtain ⟨g0, g1, g2, g3, g4, g5, g6, g7, g8⟩ := box23 w T
  have HF := fun w => fits_any T w
  have HM := fun w => lawMoment_any T w
  have HR := fun w hz => right_sp T w hz
  have hbx : Below w.heap.size w (w.alloc (.cells (timeCells T) 23)) := (Below.refl _ _).alloc (Nat.le_refl _) _
  have BX := Lib.hid hbx
  clear hbx
  by_cases hnm : T.nm.size ≤ 2147483647
  case neg =>
    rw [decide_eq_false hnm] at HF
    unfold timeCells at *
    go_enter Tryz.func4, Tryz.ntmps4
    go_wp2_with (go_at_call 5; refine (HF _).mono ?_; rintro e w1 ⟨rfl, hb1⟩; have B1 := Lib.hid (BX.out.trans (hb1.mono BX.out.size)))
    go_ret
    exact ⟨rfl, B1.out⟩
  rw [decide_eq_true hnm] at HF
  have TB := Lib.hid (new_block w (.cells (timeCells T) 23))
  unfold timeCells at HF HM HR ⊢
  by_cases hw0 : which < 0
  · go_enter Tryz.func4, Tryz.ntmps4
    go_wp2_with (first | (go_at_call 5; refine (HF _).mono ?_; rintro e w1 ⟨rfl, hb1⟩; obtain ⟨hc1, hf1⟩ := bcell hb1; have B1 := Lib.hid (BX.out.trans (hb1.mono BX.out.size)); have S1 := Lib.hid hb1; clear hb1) | (go_at_call 6; refine (HM _).mono ?_; rintro e w2 ⟨rfl, hb2⟩; have B2 := Lib.hid (B1.out.trans (hb2.mono B1.out.size)); have S2 := Lib.hid (S1.out.trans (hb2.mono S1.out.size)); have BC := Lib.hid (B2.out.alloc B2.out.size (.cells (timeCells T) 25)); have N2 := new_block w2 (.cells (timeCells T) 25); have TC := Lib.hid N2; clear hb2 N2) | (go_at_call 8; refine (works_any _ (hB.below BC.out)).mono ?_; rintro e wz ⟨rfl, hbz⟩; have BZ := Lib.hid (BC.out.trans (hbz.mono BC.out.size)); clear hbz))
    go_ret
    exact ⟨rfl, BZ.out⟩
  by_cases hw1 : 1 < which
  · go_enter Tryz.func4, Tryz.ntmps4
    go_wp2_with (first | (go_at_call 5; refine (HF _).mono ?_; rintro e w1 ⟨rfl, hb1⟩; obtain ⟨hc1, hf1⟩ := bcell hb1; have B1 := Lib.hid (BX.out.trans (hb1.mono BX.out.size)); have S1 := Lib.hid hb1; clear hb1) | (go_at_call 6; refine (HM _).mono ?_; rintro e w2 ⟨rfl, hb2⟩; have B2 := Lib.hid (B1.out.trans (hb2.mono B1.out.size)); have S2 := Lib.hid (S1.out.trans (hb2.mono S1.out.size)); have BC := Lib.hid (B2.out.alloc B2.out.size (.cells (timeCells T) 25)); have N2 := new_block w2 (.cells (timeCells T) 25); have TC := Lib.hid N2; clear hb2 N2) | (go_at_call 8; refine (works_any _ (hB.below BC.out)).mono ?_; rintro e wz ⟨rfl, hbz⟩; have BZ := Lib.hid (BC.out.trans (hbz.mono BC.out.size)); clear hbz))
    go_ret
    exact ⟨rfl, BZ.out⟩
  have hwc : which = 0 ∨ which = 1 := by omega
  clear hw0 hw1
  rcases hwc with rfl | rfl
  · go_enter Tryz.func4, Tryz.ntmps4
    go_wp2_with (first | (go_at_call 5; refine (HF _).mono ?_; rintro e w1 ⟨rfl, hb1⟩; obtain ⟨hc1, hf1⟩ := bcell hb1; have B1 := Lib.hid (BX.out.trans (hb1.mono BX.out.size)); have S1 := Lib.hid hb1; clear hb1) | (go_at_call 6; refine (HM _).mono ?_; rintro e w2 ⟨rfl, hb2⟩; have B2 := Lib.hid (B1.out.trans (hb2.mono B1.out.size)); have S2 := Lib.hid (S1.out.trans (hb2.mono S1.out.size)); have BC := Lib.hid (B2.out.alloc B2.out.size (.cells (timeCells T) 25)); have N2 := new_block w2 (.cells (timeCells T) 25); have TC := Lib.hid N2; clear hb2 N2))
    go_at_call 7
    refine (HR _ hnm).mono ?_
    rintro e w3 ⟨b, rfl, hr, hb3⟩
    obtain ⟨hc3, hf3⟩ := bcell hb3
    have BC' := Lib.hid (BC.out.trans (hb3.mono BC.out.size))
    have SC := Lib.hid hb3
    have hz3 : w2.heap.size < w3.heap.size := by have := hb3.size; simp at this; omega
    clear hb3
    cases b
    · dsimp only
      have BC := BC'
      go_wp2_with (first | (go_at_call 8; refine (works_any _ (hB.below BC.out)).mono ?_; rintro e wz ⟨rfl, hbz⟩; have BZ := Lib.hid (BC.out.trans (hbz.mono BC.out.size)); clear hbz))
      go_ret
      exact ⟨rfl, BZ.out⟩
    have hR := hr rfl
    dsimp only
    go_wp2_with (fail)
    refine (text_sp T hR l (by have := LL.out; omega) _).mono ?_
    rintro e w4 ⟨hb4, rfl⟩
    have S3 := S2.out.alloc S2.out.size (.cells (timeCells T) 25)
    have SA := (Below.refl w3.heap.size w3).alloc (Nat.le_refl _) (.cells #[.int .u8 c.toNat] 5)
    have SD := SC.out.trans (SA.mono SC.out.size)
    have S4 := (S3.trans (SD.mono S3.size)).trans (hb4.mono (Nat.le_trans S3.size SD.size))
    have k4 := (S4.block w.heap.size (by simp)).trans TB.out
    have BD := BC'.out.trans (SA.mono BC'.out.size)
    have BC4 := Lib.hid (BD.trans (hb4.mono BD.size))
    cases hg : textG T l with
    | none =>
      have BC := BC4
      dsimp only
      clear k4 S3 S4 SA SD BD hb4
      go_wp2_with (first | (go_at_call 8; refine (works_any _ (hB.below BC.out)).mono ?_; rintro e wz ⟨rfl, hbz⟩; have BZ := Lib.hid (BC.out.trans (hbz.mono BC.out.size)); clear hbz))
      go_ret
      exact ⟨rfl, BZ.out⟩
    | some X =>
      have hl60 : l.length ≤ 60 := by
        unfold textG at hg
        by_cases h : l.length ≤ 60
        · exact h
        · rw [if_neg h] at hg; cases hg
      have hx : textF T l = some X := by unfold textG at hg; rwa [if_pos hl60] at hg
      have hX : X.length ≤ 400000 := by have := textF_len hR l.length l X (Nat.le_refl _) hx; omega
      have e0 := cell_of_row w4 w.heap.size 0 _ _ _ k4
      have e1 := cell_of_row w4 w.heap.size 1 _ _ _ k4
      have e2 := cell_of_row w4 w.heap.size 2 _ _ _ k4
      have e3 := cell_of_row w4 w.heap.size 3 _ _ _ k4
      have e4 := cell_of_row w4 w.heap.size 4 _ _ _ k4
      have e5 := cell_of_row w4 w.heap.size 5 _ _ _ k4
      have e6 := cell_of_row w4 w.heap.size 6 _ _ _ k4
      have e7 := cell_of_row w4 w.heap.size 7 _ _ _ k4
      have e8 := cell_of_row w4 w.heap.size 8 _ _ _ k4
      simp only [timeCells, List.getElem?_toArray, List.getElem?_cons_zero, List.getElem?_cons_succ] at e0 e1 e2 e3 e4 e5 e6 e7 e8
      have l4 := lt_of_block k4
      clear k4 S3 S4 SA SD BD hb4 hg
      dsimp only
      by_cases hf : firstF l = true
      case neg =>
        have hf : firstF l = false := by simpa using hf
        have FS := fun w => first_sp l (by have := LL.out; omega) w
        rw [hf] at FS
        have BC := BC4
        go_wp2_with (first | (go_at_call 10; refine (FS _).mono ?_; rintro e w4' ⟨rfl, rfl⟩) | (go_at_call 8; refine (works_any _ (hB.below BC.out)).mono ?_; rintro e wz ⟨rfl, hbz⟩; have BZ := Lib.hid (BC.out.trans (hbz.mono BC.out.size)); clear hbz))
        go_ret
        exact ⟨rfl, BZ.out⟩
      have HW : ((0 : Int) = 0 ∧ firstF l = true) ∨ (0 : Int) = 1 := .inl ⟨rfl, hf⟩
      have FS := fun w => first_sp l (by have := LL.out; omega) w
      rw [hf] at FS
      have HI : Calls Tryz.prog 11 #[.int .i64 0, .string (bs l), .agg (timeCells T)] w4 fun e w' => e = .returned (.tuple #[.string (bs X), .bool true]) ∧ Below w4.heap.size w4 w' := impl_any T hR w4 (hB.below BC4.out) 0 l X hx HW hl60 hX
      unfold timeCells at HI
      go_wp2_with (first | (go_at_call 10; refine (FS _).mono ?_; rintro e w4' ⟨rfl, rfl⟩) | (go_at_call 11; refine HI.mono ?_; rintro e w5 ⟨rfl, hb5⟩; have BC := Lib.hid (BC4.out.trans (hb5.mono BC4.out.size)); clear hb5) | (go_at_call 8; refine (works_any _ (hB.below BC.out)).mono ?_; rintro e wz ⟨rfl, hbz⟩; have BZ := Lib.hid (BC.out.trans (hbz.mono BC.out.size)); clear hbz))
      go_ret
      exact ⟨rfl, BZ.out⟩
  · go_enter Tryz.func4, Tryz.ntmps4
    go_wp2_with (first | (go_at_call 5; refine (HF _).mono ?_; rintro e w1 ⟨rfl, hb1⟩; obtain ⟨hc1, hf1⟩ := bcell hb1; have B1 := Lib.hid (BX.out.trans (hb1.mono BX.out.size)); have S1 := Lib.hid hb1; clear hb1) | (go_at_call 6; refine (HM _).mono ?_; rintro e w2 ⟨rfl, hb2⟩; have B2 := Lib.hid (B1.out.trans (hb2.mono B1.out.size)); have S2 := Lib.hid (S1.out.trans (hb2.mono S1.out.size)); have BC := Lib.hid (B2.out.alloc B2.out.size (.cells (timeCells T) 25)); have N2 := new_block w2 (.cells (timeCells T) 25); have TC := Lib.hid N2; clear hb2 N2))
    go_at_call 7
    refine (HR _ hnm).mono ?_
    rintro e w3 ⟨b, rfl, hr, hb3⟩
    obtain ⟨hc3, hf3⟩ := bcell hb3
    have BC' := Lib.hid (BC.out.trans (hb3.mono BC.out.size))
    have SC := Lib.hid hb3
    have hz3 : w2.heap.size < w3.heap.size := by have := hb3.size; simp at this; omega
    clear hb3
    cases b
    · dsimp only
      have BC := BC'
      go_wp2_with (first | (go_at_call 8; refine (works_any _ (hB.below BC.out)).mono ?_; rintro e wz ⟨rfl, hbz⟩; have BZ := Lib.hid (BC.out.trans (hbz.mono BC.out.size)); clear hbz))
      go_ret
      exact ⟨rfl, BZ.out⟩
    have hR := hr rfl
    dsimp only
    go_wp2_with (fail)
    refine (text_sp T hR l (by have := LL.out; omega) _).mono ?_
    rintro e w4 ⟨hb4, rfl⟩
    have S3 := S2.out.alloc S2.out.size (.cells (timeCells T) 25)
    have SA := (Below.refl w3.heap.size w3).alloc (Nat.le_refl _) (.cells #[.int .u8 c.toNat] 5)
    have SD := SC.out.trans (SA.mono SC.out.size)
    have S4 := (S3.trans (SD.mono S3.size)).trans (hb4.mono (Nat.le_trans S3.size SD.size))
    have k4 := (S4.block w.heap.size (by simp)).trans TB.out
    have BD := BC'.out.trans (SA.mono BC'.out.size)
    have BC4 := Lib.hid (BD.trans (hb4.mono BD.size))
    cases hg : textG T l with
    | none =>
      have BC := BC4
      dsimp only
      clear k4 S3 S4 SA SD BD hb4
      go_wp2_with (first | (go_at_call 8; refine (works_any _ (hB.below BC.out)).mono ?_; rintro e wz ⟨rfl, hbz⟩; have BZ := Lib.hid (BC.out.trans (hbz.mono BC.out.size)); clear hbz))
      go_ret
      exact ⟨rfl, BZ.out⟩
    | some X =>
      have hl60 : l.length ≤ 60 := by
        unfold textG at hg
        by_cases h : l.length ≤ 60
        · exact h
        · rw [if_neg h] at hg; cases hg
      have hx : textF T l = some X := by unfold textG at hg; rwa [if_pos hl60] at hg
      have hX : X.length ≤ 400000 := by have := textF_len hR l.length l X (Nat.le_refl _) hx; omega
      have e0 := cell_of_row w4 w.heap.size 0 _ _ _ k4
      have e1 := cell_of_row w4 w.heap.size 1 _ _ _ k4
      have e2 := cell_of_row w4 w.heap.size 2 _ _ _ k4
      have e3 := cell_of_row w4 w.heap.size 3 _ _ _ k4
      have e4 := cell_of_row w4 w.heap.size 4 _ _ _ k4
      have e5 := cell_of_row w4 w.heap.size 5 _ _ _ k4
      have e6 := cell_of_row w4 w.heap.size 6 _ _ _ k4
      have e7 := cell_of_row w4 w.heap.size 7 _ _ _ k4
      have e8 := cell_of_row w4 w.heap.size 8 _ _ _ k4
      simp only [timeCells, List.getElem?_toArray, List.getElem?_cons_zero, List.getElem?_cons_succ] at e0 e1 e2 e3 e4 e5 e6 e7 e8
      have l4 := lt_of_block k4
      clear k4 S3 S4 SA SD BD hb4 hg
      dsimp only
      have HW : ((1 : Int) = 0 ∧ firstF l = true) ∨ (1 : Int) = 1 := .inr rfl
      have HI : Calls Tryz.prog 11 #[.int .i64 1, .string (bs l), .agg (timeCells T)] w4 fun e w' => e = .returned (.tuple #[.string (bs X), .bool true]) ∧ Below w4.heap.size w4 w' := impl_any T hR w4 (hB.below BC4.out) 1 l X hx HW hl60 hX
      unfold timeCells at HI
      go_wp2_with (first | (go_at_call 11; refine HI.mono ?_; rintro e w5 ⟨rfl, hb5⟩; have BC := Lib.hid (BC4.out.trans (hb5.mono BC4.out.size)); clear hb5) | (go_at_call 8; refine (works_any _ (hB.below BC.out)).mono ?_; rintro e wz ⟨rfl, hbz⟩; have BZ := Lib.hid (BC.out.trans (hbz.mono BC.out.size)); clear hbz))
      go_ret
      exact ⟨rfl, BZ.out⟩
end Go.Proofs.YtkcgngpoegglnaaGreatDoor
