/- The laws' helpers: the size, the time of the reference, whether the package answers at all. · The reference: the week by ISO 8601; numbers with signs ahead. · The reference: padded numbers, the hour of twelve, the half of a day, the offset. -/
import Derived.Test.YtkcgngpoegglnaaGreatDoorM41
import Derived.Laws.IdiomStrings
/- The laws' helpers: the size, the time of the reference, whether the package answers at all. -/
section
namespace Go.Proofs.YtkcgngpoegglnaaGreatDoor
open Go Go.RowKit
set_option linter.unusedVariables false
set_option linter.unusedSimpArgs false

/-- the box of a time of the thin package. -/
theorem box23 (w : World) (T : STime) : (w.alloc (.cells (timeCells T) 23)).cell? ⟨w.heap.size, 0, none⟩ = some (.int .i64 T.y) ∧ (w.alloc (.cells (timeCells T) 23)).cell? ⟨w.heap.size, 1, none⟩ = some (.int .i64 T.m) ∧ (w.alloc (.cells (timeCells T) 23)).cell? ⟨w.heap.size, 2, none⟩ = some (.int .i64 T.d) ∧ (w.alloc (.cells (timeCells T) 23)).cell? ⟨w.heap.size, 3, none⟩ = some (.int .i64 T.hh) ∧ (w.alloc (.cells (timeCells T) 23)).cell? ⟨w.heap.size, 4, none⟩ = some (.int .i64 T.mm) ∧ (w.alloc (.cells (timeCells T) 23)).cell? ⟨w.heap.size, 5, none⟩ = some (.int .i64 T.ss) ∧ (w.alloc (.cells (timeCells T) 23)).cell? ⟨w.heap.size, 6, none⟩ = some (.int .i64 T.ns) ∧ (w.alloc (.cells (timeCells T) 23)).cell? ⟨w.heap.size, 7, none⟩ = some (.int .i64 T.off) ∧ (w.alloc (.cells (timeCells T) 23)).cell? ⟨w.heap.size, 8, none⟩ = some (.string T.nm) := by
  refine ⟨?_, ?_, ?_, ?_, ?_, ?_, ?_, ?_, ?_⟩ <;> (rw [cell_of_row _ w.heap.size _ _ _ _ (new_block w _)]; rfl)

theorem fits_any (T : STime) (w : World) : Calls Tryz.prog 5 #[.agg (timeCells T)] w fun e w' => e = .returned (.bool (decide (T.nm.size ≤ 2147483647))) ∧ Below w.heap.size w w' := by
  obtain ⟨g0, g1, g2, g3, g4, g5, g6, g7, g8⟩ := box23 w T
  unfold timeCells at *
  by_cases h : T.nm.size ≤ 2147483647
  · have hn : ¬ (2147483647 : Int) < (T.nm.size : Int) := by omega
    rw [decide_eq_true h]
    clear h
    go_enter Tryz.func5, Tryz.ntmps5
    go_wp2
    go_ret
    exact ⟨rfl, (Below.refl _ _).alloc (Nat.le_refl _) _⟩
  · have hn : (2147483647 : Int) < (T.nm.size : Int) := by omega
    rw [decide_eq_false h]
    clear h
    go_enter Tryz.func5, Tryz.ntmps5
    go_wp2
    go_ret
    exact ⟨rfl, (Below.refl _ _).alloc (Nat.le_refl _) _⟩

set_option maxRecDepth 100000 in
theorem lawMoment_any (T : STime) (w : World) : Calls Tryz.prog 6 #[.agg (timeCells T)] w fun e w' => e = .returned (.agg (timeCells T)) ∧ Below w.heap.size w w' := by
  obtain ⟨g0, g1, g2, g3, g4, g5, g6, g7, g8⟩ := box23 w T
  unfold timeCells at *
  go_enter Tryz.func6, Tryz.ntmps6
  go_wp2
  refine bodyPost_ret (v := .agg #[.int .i64 T.y, .int .i64 T.m, .int .i64 T.d, .int .i64 T.hh, .int .i64 T.mm, .int .i64 T.ss, .int .i64 T.ns, .int .i64 T.off, .string T.nm]) (by simp [results, Tryz.results6, go_sem]) rfl ⟨rfl, ?_⟩
  repeat (first | exact Below.refl _ _ | refine Below.setCell ?_ (by simp) _ | refine Below.alloc ?_ (by simp <;> omega) _)

/-- the time at which the laws ask whether the package answers. -/
def T0 : STime := ⟨2026, 1, 1, 0, 0, 0, 0, 0, utcS⟩
theorem right0 : RightT T0 := by
  refine ⟨?_, ?_, ?_, ?_, ?_, ?_, ?_, ?_, ?_, ?_, ?_, ?_, ?_, ?_, ?_, ?_, ?_, ?_, ?_, ?_⟩ <;> first | decide | (intro c hc; simp [T0, utcS] at hc; rcases hc with rfl | rfl | rfl <;> decide)

set_option maxRecDepth 100000 in
theorem works_any (w : World) (hB : Base w) : Calls Tryz.prog 8 #[] w fun e w' => e = .returned (.bool true) ∧ Below w.heap.size w w' := by
  have H : Calls Tryz.prog 11 #[.int .i64 1, .string ⟨#[37, 37]⟩, .agg #[.int .i64 2026, .int .i64 1, .int .i64 1, .int .i64 0, .int .i64 0, .int .i64 0, .int .i64 0, .int .i64 0, .string ⟨#[85, 84, 67]⟩]] w fun e w' => e = .returned (.tuple #[.string ⟨#[37]⟩, .bool true]) ∧ Below w.heap.size w w' :=
    impl_any T0 right0 w hB 1 [37, 37] [37] rfl (.inr rfl) (by decide) (by decide)
  go_enter Tryz.func8, Tryz.ntmps8
  go_wp2_with (go_at_call 11; refine H.mono ?_; rintro e w1 ⟨rfl, hb1⟩)
  go_ret
  exact ⟨rfl, hb1⟩
end Go.Proofs.YtkcgngpoegglnaaGreatDoor
end
/- The reference: the week by ISO 8601; numbers with signs ahead. -/
section
namespace Go.Proofs.YtkcgngpoegglnaaGreatDoor
open Go Go.RowKit
set_option linter.unusedVariables false
set_option linter.unusedSimpArgs false

set_option maxRecDepth 100000 in
set_option maxHeartbeats 4000000 in
theorem iso_sp (T : STime) (hR : RightT T) (w : World) : Calls Tryz.prog 21 #[.agg (timeCells T)] w fun e w' => e = .returned (.tuple #[.int .i64 (iyT T), .int .i64 (iwT T)]) ∧ Below w.heap.size w w' := by
  have H := fun w => yearDay_sp T hR w
  have HW := fun w => weekDay_sp T hR w
  have hy0 := hR.y0
  have hy1 := hR.y1
  obtain ⟨b1, b2, b3⟩ := abs_day T.y T.m T.d hR.m0 hR.m1 hR.d0 hR.d1
  have hlp := lpY_bd T.y
  have hyd : 1 ≤ ydT T ∧ ydT T ≤ 366 := by unfold ydT; omega
  have hwd : 0 ≤ wdT T ∧ wdT T ≤ 6 := by unfold wdT wdF; omega
  have hw0 : isoWeek0 T.y (ydT T) = (ydT T - ((wdT T + 6) % 7 + 1) + 10) / 7 := rfl
  have hiy : iyT T = if isoWeek0 T.y (ydT T) < 1 then T.y - 1 else if isoWeek0 T.y (ydT T) > weeksF T.y then T.y + 1 else T.y := rfl
  have hiw : iwT T = if isoWeek0 T.y (ydT T) < 1 then weeksF (T.y - 1) else if isoWeek0 T.y (ydT T) > weeksF T.y then 1 else isoWeek0 T.y (ydT T) := rfl
  have K0 := fun w => weeks_any T.y w (by omega) (by omega)
  have K1 := fun w => weeks_any (T.y - 1) w (by omega) (by omega)
  have hbx : Below w.heap.size w (w.alloc (.cells (timeCells T) 25)) := (Below.refl _ _).alloc (Nat.le_refl _) _
  have TB := Lib.hid (TimeBox.new w T)
  have BX := Lib.hid hbx
  obtain ⟨g0, g1, g2, g3, g4, g5, g6, g7, g8⟩ := (TimeBox.new w T).cells
  rw [hw0] at hiy hiw
  clear b1 b2 b3 hw0 hbx
  unfold timeCells at *
  generalize ydT T = yd at *
  generalize wdT T = wd at *
  generalize iyT T = iy at *
  generalize iwT T = iw at *
  generalize weeksF (T.y - 1) = k1 at *
  generalize weeksF T.y = k0 at *
  have e1 : Int.tmod (wd + 6) 7 = (wd + 6) % 7 := Int.tmod_eq_emod_of_nonneg (by omega)
  have e2 : Int.tdiv (yd - ((wd + 6) % 7 + 1) + 10) 7 = (yd - ((wd + 6) % 7 + 1) + 10) / 7 := Int.tdiv_eq_ediv_of_nonneg (by omega)
  have hwk : 0 ≤ (yd - ((wd + 6) % 7 + 1) + 10) / 7 ∧ (yd - ((wd + 6) % 7 + 1) + 10) / 7 ≤ 54 := by omega
  by_cases c1 : (yd - ((wd + 6) % 7 + 1) + 10) / 7 < 1
  · rw [if_pos c1] at hiy hiw
    subst hiy; subst hiw
    go_enter Tryz.func21, Tryz.ntmps21
    go_wp2_with (first | (go_at_call 23; refine (HW _).mono ?_; rintro e w1 ⟨rfl, hb1⟩; have T1 := Lib.hid (TB.out.keep hb1); have B1 := Lib.hid (BX.out.trans (hb1.mono BX.out.size)); obtain ⟨q0, q1, q2, q3, q4, q5, q6, q7, q8⟩ := T1.out.cells; clear hb1) | (go_at_call 27; refine (H _).mono ?_; rintro e w2 ⟨rfl, hb2⟩; have T2 := Lib.hid (T1.out.keep hb2); have B2 := Lib.hid (B1.out.trans (hb2.mono B1.out.size)); obtain ⟨r0, _⟩ := T2.out.cells; clear hb2) | (go_at_call 39; with_reducible refine (K1 _).mono ?_; rintro e w' ⟨rfl, rfl⟩))
    go_ret2
    exact ⟨rfl, B2.out⟩
  · rw [if_neg c1] at hiy hiw
    by_cases c2 : k0 < (yd - ((wd + 6) % 7 + 1) + 10) / 7
    · rw [if_pos c2] at hiy hiw
      subst hiy; subst hiw
      go_enter Tryz.func21, Tryz.ntmps21
      go_wp2_with (first | (go_at_call 23; refine (HW _).mono ?_; rintro e w1 ⟨rfl, hb1⟩; have T1 := Lib.hid (TB.out.keep hb1); have B1 := Lib.hid (BX.out.trans (hb1.mono BX.out.size)); obtain ⟨q0, q1, q2, q3, q4, q5, q6, q7, q8⟩ := T1.out.cells; clear hb1) | (go_at_call 27; refine (H _).mono ?_; rintro e w2 ⟨rfl, hb2⟩; have T2 := Lib.hid (T1.out.keep hb2); have B2 := Lib.hid (B1.out.trans (hb2.mono B1.out.size)); obtain ⟨r0, _⟩ := T2.out.cells; clear hb2) | (go_at_call 39; with_reducible refine (K0 _).mono ?_; rintro e w' ⟨rfl, rfl⟩))
      go_ret2
      exact ⟨rfl, B2.out⟩
    · rw [if_neg c2] at hiy hiw
      subst hiy; subst hiw
      go_enter Tryz.func21, Tryz.ntmps21
      go_wp2_with (first | (go_at_call 23; refine (HW _).mono ?_; rintro e w1 ⟨rfl, hb1⟩; have T1 := Lib.hid (TB.out.keep hb1); have B1 := Lib.hid (BX.out.trans (hb1.mono BX.out.size)); obtain ⟨q0, q1, q2, q3, q4, q5, q6, q7, q8⟩ := T1.out.cells; clear hb1) | (go_at_call 27; refine (H _).mono ?_; rintro e w2 ⟨rfl, hb2⟩; have T2 := Lib.hid (T1.out.keep hb2); have B2 := Lib.hid (B1.out.trans (hb2.mono B1.out.size)); obtain ⟨r0, _⟩ := T2.out.cells; clear hb2) | (go_at_call 39; with_reducible refine (K0 _).mono ?_; rintro e w' ⟨rfl, rfl⟩))
      go_ret2
      exact ⟨rfl, B2.out⟩
end Go.Proofs.YtkcgngpoegglnaaGreatDoor
end
/- The reference: padded numbers, the hour of twelve, the half of a day, the offset. -/
section
namespace Go.Proofs.YtkcgngpoegglnaaGreatDoor
open Go Go.RowKit
set_option linter.unusedVariables false
set_option linter.unusedSimpArgs false

theorem dec1 (n : Int) (h : n < 10) : decF 3 n [] = [dg n] := by rw [decF, if_pos h]
theorem dec2 (n : Int) (h : 10 ≤ n) (h2 : n < 100) : decF 3 n [] = [dg (n / 10), dg (n % 10)] := by
  rw [decF, if_neg (by omega), decF, if_pos (by omega)]
theorem dec3 (n : Int) (h : 100 ≤ n) (h2 : n < 1000) : decF 3 n [] = [dg (n / 100), dg (n / 10 % 10), dg (n % 10)] := by
  rw [decF, if_neg (by omega), decF, if_neg (by omega), decF, if_pos (by omega), show n / 10 / 10 = n / 100 by omega]
theorem dec4 (n : Int) (h : 1000 ≤ n) (h2 : n < 10000) : decF 3 n [] = [dg (n / 1000), dg (n / 100 % 10), dg (n / 10 % 10), dg (n % 10)] := by
  rw [decF, if_neg (by omega), decF, if_neg (by omega), decF, if_neg (by omega), decF, show n / 10 / 10 = n / 100 by omega, show n / 100 / 10 = n / 1000 by omega]

theorem pad1 (n : Int) (h0 : 0 ≤ n) (h1 : n < 10) : padL 1 48 (decF 3 n []) = [dg n] := by rw [dec1 n h1]; rfl
theorem pad2 (n : Int) (h0 : 0 ≤ n) (h1 : n < 100) : padL 2 48 (decF 3 n []) = d2 n := by
  by_cases h : n < 10
  · rw [dec1 n h, d2_lt n h0 h]; rfl
  · rw [dec2 n (by omega) h1]; rfl
theorem pad2b (n : Int) (h0 : 0 ≤ n) (h1 : n < 100) : padL 2 32 (decF 3 n []) = b2 n := by
  unfold b2
  by_cases h : n < 10
  · rw [dec1 n h, if_pos h]; rfl
  · rw [dec2 n (by omega) h1, if_neg h]; rfl
theorem pad3 (n : Int) (h0 : 0 ≤ n) (h1 : n < 1000) : padL 3 48 (decF 3 n []) = d3 n := by
  by_cases h : n < 10
  · rw [dec1 n h, d3_lt n h0 h]; rfl
  by_cases h2 : n < 100
  · rw [dec2 n (by omega) h2, d3_mid n (by omega) h2]; rfl
  · rw [dec3 n (by omega) h1]; rfl
theorem pad4 (n : Int) (h0 : 0 ≤ n) (h1 : n < 10000) : padL 4 48 (decF 3 n []) = d4 n := by
  have z : dg 0 = 48 := rfl
  by_cases h : n < 10
  · rw [dec1 n h]; unfold d4; rw [show n / 1000 = 0 by omega, show n / 100 % 10 = 0 by omega, show n / 10 % 10 = 0 by omega, show n % 10 = n by omega, z]; rfl
  by_cases h2 : n < 100
  · rw [dec2 n (by omega) h2]; unfold d4; rw [show n / 1000 = 0 by omega, show n / 100 % 10 = 0 by omega, show n / 10 % 10 = n / 10 by omega, z]; rfl
  by_cases h3 : n < 1000
  · rw [dec3 n (by omega) h3]; unfold d4; rw [show n / 1000 = 0 by omega, show n / 100 % 10 = n / 100 by omega, z]; rfl
  · rw [dec4 n (by omega) h1]; rfl

section
variable {n : Int} {w : World}
def StrPost (w : World) (x : List UInt8) (e : Ending) (w' : World) : Prop := e = .returned (.string (bs x)) ∧ Below w.heap.size w w'
theorem p1_any (n : Int) (w : World) (h0 : 0 ≤ n) (h1 : n < 10) : Calls Tryz.prog 25 #[.int .i64 n, .int .i64 1, .int .u8 48] w (StrPost w [dg n]) := by
  have h := padded_any n 1 48 w h0 (by omega) (by omega); rw [pad1 n h0 h1] at h; exact h
theorem p2_any (n : Int) (w : World) (h0 : 0 ≤ n) (h1 : n < 100) : Calls Tryz.prog 25 #[.int .i64 n, .int .i64 2, .int .u8 48] w (StrPost w (d2 n)) := by
  have h := padded_any n 2 48 w h0 (by omega) (by omega); rw [pad2 n h0 h1] at h; exact h
theorem p2b_any (n : Int) (w : World) (h0 : 0 ≤ n) (h1 : n < 100) : Calls Tryz.prog 25 #[.int .i64 n, .int .i64 2, .int .u8 32] w (StrPost w (b2 n)) := by
  have h := padded_any n 2 32 w h0 (by omega) (by omega); rw [pad2b n h0 h1] at h; exact h
theorem p3_any (n : Int) (w : World) (h0 : 0 ≤ n) (h1 : n < 1000) : Calls Tryz.prog 25 #[.int .i64 n, .int .i64 3, .int .u8 48] w (StrPost w (d3 n)) := by
  have h := padded_any n 3 48 w h0 (by omega) (by omega); rw [pad3 n h0 h1] at h; exact h
theorem p4_any (n : Int) (w : World) (h0 : 0 ≤ n) (h1 : n < 10000) : Calls Tryz.prog 25 #[.int .i64 n, .int .i64 4, .int .u8 48] w (StrPost w (d4 n)) := by
  have h := padded_any n 4 48 w h0 (by omega) (by omega); rw [pad4 n h0 h1] at h; exact h
end

theorem twelve_sp (T : STime) (hR : RightT T) (w : World) : Calls Tryz.prog 26 #[.agg (timeCells T)] w fun e w' => e = .returned (.int .i64 ((T.hh + 11) % 12 + 1)) ∧ Below w.heap.size w w' := by
  have h0 := hR.h0
  have h1 := hR.h1
  obtain ⟨g0, g1, g2, g3, g4, g5, g6, g7, g8⟩ := (TimeBox.new w T).cells
  unfold timeCells at *
  have e1 : Int.tmod (T.hh + 11) 12 = (T.hh + 11) % 12 := Int.tmod_eq_emod_of_nonneg (by omega)
  go_enter Tryz.func26, Tryz.ntmps26
  go_wp2
  go_ret
  exact ⟨rfl, (Below.refl _ _).alloc (Nat.le_refl _) _⟩

theorem half_sp (T : STime) (hR : RightT T) (w : World) : Calls Tryz.prog 28 #[.agg (timeCells T)] w (StrPost w (if T.hh < 12 then [65, 77] else [80, 77])) := by
  have h0 := hR.h0
  have h1 := hR.h1
  obtain ⟨g0, g1, g2, g3, g4, g5, g6, g7, g8⟩ := (TimeBox.new w T).cells
  unfold timeCells at *
  by_cases h : T.hh < 12
  · rw [if_pos h]
    go_enter Tryz.func28, Tryz.ntmps28
    go_wp2
    go_ret
    exact ⟨rfl, (Below.refl _ _).alloc (Nat.le_refl _) _⟩
  · rw [if_neg h]
    go_enter Tryz.func28, Tryz.ntmps28
    go_wp2
    go_ret
    exact ⟨rfl, (Below.refl _ _).alloc (Nat.le_refl _) _⟩

set_option maxRecDepth 100000 in
set_option maxHeartbeats 4000000 in
theorem offset_sp (n : Int) (w : World) (h0 : -50400 ≤ n) (h1 : n ≤ 50400) : Calls Tryz.prog 29 #[.int .i64 n] w (StrPost w (offText n)) := by
  by_cases h : n < 0
  · obtain ⟨a, ha⟩ : ∃ a, a = -n / 3600 := ⟨_, rfl⟩
    obtain ⟨b, hb⟩ : ∃ b, b = -n / 60 % 60 := ⟨_, rfl⟩
    have hx : offText n = [45] ++ d2 a ++ d2 b := by unfold offText; rw [if_pos h, ha, hb]; rfl
    have e1 : Int.tdiv (-n) 3600 = a := by rw [Int.tdiv_eq_ediv_of_nonneg (by omega), ha]
    have e2 : Int.tdiv (-n) 60 = -n / 60 := Int.tdiv_eq_ediv_of_nonneg (by omega)
    have e3 : Int.tmod (-n / 60) 60 = b := by rw [Int.tmod_eq_emod_of_nonneg (by omega), hb]
    have ab : 0 ≤ a ∧ a ≤ 14 := by omega
    have bb : 0 ≤ b ∧ b ≤ 59 := by omega
    have P1 := fun w => p2_any a w (by omega) (by omega)
    have P2 := fun w => p2_any b w (by omega) (by omega)
    have hs1 : ¬ (9223372036854775807 < (ByteArray.mk #[45]).size + (bs (d2 a)).size) := by rw [bs_size]; simp [d2, ByteArray.size]
    have ha1 : (ByteArray.mk #[45]) ++ bs (d2 a) = bs ([45] ++ d2 a) := bs_append [45] (d2 a)
    have hs2 : ¬ (9223372036854775807 < (bs ([45] ++ d2 a)).size + (bs (d2 b)).size) := by rw [bs_size, bs_size]; simp [d2]
    have ha2 : bs ([45] ++ d2 a) ++ bs (d2 b) = bs (offText n) := by rw [bs_append, hx]
    unfold StrPost at *
    generalize bs ([45] ++ d2 a) = u at *
    generalize bs (offText n) = X at *
    generalize bs (d2 a) = A at *
    generalize bs (d2 b) = B at *
    have HH := Lib.hid (And.intro ha (And.intro hb hx))
    clear ha hb hx
    go_enter Tryz.func29, Tryz.ntmps29
    go_wp2_with (first | (go_at_call 25; first | (with_reducible refine (P1 _).mono ?_; rintro e w1 ⟨rfl, hb1⟩; have B1 := Lib.hid hb1; clear hb1) | (with_reducible refine (P2 _).mono ?_; rintro e w2 ⟨rfl, hb2⟩; have B2 := Lib.hid hb2; clear hb2)))
    go_ret
    exact ⟨rfl, B1.out.trans (B2.out.mono B1.out.size)⟩
  · obtain ⟨a, ha⟩ : ∃ a, a = n / 3600 := ⟨_, rfl⟩
    obtain ⟨b, hb⟩ : ∃ b, b = n / 60 % 60 := ⟨_, rfl⟩
    have hx : offText n = [43] ++ d2 a ++ d2 b := by unfold offText; rw [if_neg h, ha, hb]; rfl
    have e1 : Int.tdiv n 3600 = a := by rw [Int.tdiv_eq_ediv_of_nonneg (by omega), ha]
    have e2 : Int.tdiv n 60 = n / 60 := Int.tdiv_eq_ediv_of_nonneg (by omega)
    have e3 : Int.tmod (n / 60) 60 = b := by rw [Int.tmod_eq_emod_of_nonneg (by omega), hb]
    have ab : 0 ≤ a ∧ a ≤ 14 := by omega
    have bb : 0 ≤ b ∧ b ≤ 59 := by omega
    have P1 := fun w => p2_any a w (by omega) (by omega)
    have P2 := fun w => p2_any b w (by omega) (by omega)
    have hs1 : ¬ (9223372036854775807 < (ByteArray.mk #[43]).size + (bs (d2 a)).size) := by rw [bs_size]; simp [d2, ByteArray.size]
    have ha1 : (ByteArray.mk #[43]) ++ bs (d2 a) = bs ([43] ++ d2 a) := bs_append [43] (d2 a)
    have hs2 : ¬ (9223372036854775807 < (bs ([43] ++ d2 a)).size + (bs (d2 b)).size) := by rw [bs_size, bs_size]; simp [d2]
    have ha2 : bs ([43] ++ d2 a) ++ bs (d2 b) = bs (offText n) := by rw [bs_append, hx]
    unfold StrPost at *
    generalize bs ([43] ++ d2 a) = u at *
    generalize bs (offText n) = X at *
    generalize bs (d2 a) = A at *
    generalize bs (d2 b) = B at *
    have HH := Lib.hid (And.intro ha (And.intro hb hx))
    clear ha hb hx
    go_enter Tryz.func29, Tryz.ntmps29
    go_wp2_with (first | (go_at_call 25; first | (with_reducible refine (P1 _).mono ?_; rintro e w1 ⟨rfl, hb1⟩; have B1 := Lib.hid hb1; clear hb1) | (with_reducible refine (P2 _).mono ?_; rintro e w2 ⟨rfl, hb2⟩; have B2 := Lib.hid hb2; clear hb2)))
    go_ret
    exact ⟨rfl, B1.out.trans (B2.out.mono B1.out.size)⟩
end Go.Proofs.YtkcgngpoegglnaaGreatDoor
end
