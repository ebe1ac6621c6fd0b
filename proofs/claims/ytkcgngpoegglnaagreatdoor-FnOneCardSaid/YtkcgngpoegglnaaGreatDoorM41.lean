/- The thin package: the call that catches a panic, and the public function. · The reference: days and weeks of a time. · The reference: numbers with signs ahead. -/
import Derived.Defers
import Derived.Recover
import Derived.Test.YtkcgngpoegglnaaGreatDoorM40
import Derived.Laws.IdiomStrings
/- The thin package: the call that catches a panic, and the public function. -/
section
namespace Go.Proofs.YtkcgngpoegglnaaGreatDoor
open Go Go.RowKit
set_option linter.unusedVariables false
set_option linter.unusedSimpArgs false

theorem quiet_idle (p : Addr) (w : World) :
    CallsD Tryz.prog 30 #[.pointer (some p)] .returning w fun e u' w' => e = .returned (.tuple #[]) ∧ u' = .returning ∧ w' = w := by
  refine callsD_of_wpS Tryz.func30 rfl fun c₀ cs hu => ?_
  apply wpS_seq
  apply wpS_region
  simp [wpOpsS, go_sem, recoverD, hu, Tryz.ntmps30, Exit.thenS]
  refine wpS_cond (t := false) (by simp [Act.eval, Array.replicate]) ?_
  simp only [Bool.false_eq_true, if_false]
  refine wpS_of_wp (wp_skip ?_)
  cases c₀
  simp_all [bodyPostS, results, Tryz.results30]

/-- the end of the call that catches a panic. -/
def QuietPost (w : World) (p3 p4 : Nat) (X : List UInt8) (e : Ending) (w' : World) : Prop :=
  e = .returned (.bool true) ∧ ∃ w2, Below w.heap.size w w2 ∧ w.heap.size < w2.heap.size ∧ w' = ((w2.setCell ⟨p3, 0, none⟩ (.string (bs X))).setCell ⟨p4, 0, none⟩ (.bool true)).setCell ⟨w.heap.size, 0, none⟩ (.bool true)

set_option maxRecDepth 100000 in
theorem quiet_any (w : World) (p0 p1 p2 p3 p4 : Nat) (X : List UInt8) (l3 : p3 < w.heap.size) (l4 : p4 < w.heap.size)
    (H : Calls Tryz.prog 15 #[.pointer (some ⟨p0, 0, none⟩), .pointer (some ⟨p1, 0, none⟩), .pointer (some ⟨p2, 0, none⟩), .pointer (some ⟨p3, 0, none⟩), .pointer (some ⟨p4, 0, none⟩)] (w.alloc (.cells #[.bool false] 4)) (ClosPost (w.alloc (.cells #[.bool false] 4)) p3 p4 X)) :
    Calls Tryz.prog 14 #[.func (.func 15) #[] #[.pointer (some ⟨p0, 0, none⟩), .pointer (some ⟨p1, 0, none⟩), .pointer (some ⟨p2, 0, none⟩), .pointer (some ⟨p3, 0, none⟩), .pointer (some ⟨p4, 0, none⟩)]] w (QuietPost w p3 p4 X) := by
  have hmf : ∀ (fn : Fn) (first cap : Array Value) (w : World), (Instr.makeFunc fn first cap).run Tryz.prog w = .ok (.func fn first cap) w := fun _ _ _ _ => rfl
  go_enter_defers Tryz.func14, Tryz.ntmps14
  go_wp2_with (fail)
  refine H.mono ?_
  rintro e w1 ⟨rfl, w2, hb2, rfl⟩
  have hq := keep_cell hb2 (cell_of_one (new_block w _))
  have hk := keep_frozen hb2 (by simp) (frozen_of_row _ _ 0 _ _ (new_block w (.cells #[.bool false] 4)))
  have n3 : p3 ≠ w.heap.size := by omega
  have n4 : p4 ≠ w.heap.size := by omega
  have hsz := hb2.size
  simp only [World.size_alloc] at hsz
  have BB := Lib.hid (((Below.refl w.heap.size w).alloc (Nat.le_refl _) (.cells #[.bool false] 4)).trans (hb2.mono (by simp)))
  clear H hb2
  dsimp only
  go_wp2
  refine leaves_cons (f := 30) (args := #[.pointer (some ⟨w.heap.size, 0, none⟩)]) (by simp) (by simp [go_sem]) ?_
  refine (quiet_idle ⟨w.heap.size, 0, none⟩ _).mono ?_
  rintro e u' w'' ⟨rfl, rfl, rfl⟩
  have hread : (((w2.setCell ⟨p3, 0, none⟩ (.string (bs X))).setCell ⟨p4, 0, none⟩ (.bool true)).setCell ⟨w.heap.size, 0, none⟩ (.bool true)).cell? ⟨w.heap.size, 0, none⟩ = some (.bool true) := by
    go_simp
  simp [Leaves, settle, results, Tryz.results14, go_sem, hread]
  exact ⟨rfl, w2, BB.out, by omega, rfl⟩

set_option maxRecDepth 100000 in
set_option maxHeartbeats 4000000 in
theorem impl_any (T : STime) (hR : RightT T) (w : World) (hB : Base w) (which : Int) (l X : List UInt8) (hx : textF T l = some X) (hw : (which = 0 ∧ firstF l = true) ∨ which = 1) (hl : l.length ≤ 60) (hX : X.length ≤ 400000) :
    Calls Tryz.prog 11 #[.int .i64 which, .string (bs l), .agg (timeCells T)] w fun e w' => e = .returned (.tuple #[.string (bs X), .bool true]) ∧ Below w.heap.size w w' := by
  have hmf : ∀ (fn : Fn) (first cap : Array Value) (w : World), (Instr.makeFunc fn first cap).run Tryz.prog w = .ok (.func fn first cap) w := fun _ _ _ _ => rfl
  obtain ⟨W5, hW5⟩ : ∃ W5, W5 = (((((w.alloc (Obj.cells #[Value.int IntKind.i64 which] 3)).alloc (Obj.cells #[Value.string (bs l)] 9)).alloc (Obj.cells (timeCells T) 23)).alloc (Obj.cells #[Value.string { data := #[] }] 9)).alloc (Obj.cells #[Value.bool false] 4)) := ⟨_, rfl⟩
  have s5 : W5.heap.size = w.heap.size + 5 := by rw [hW5]; simp
  have b5 : Below w.heap.size w W5 := by
    rw [hW5]
    exact (((((Below.refl _ _).alloc (Nat.le_refl _) _).alloc (by simp) _).alloc (by simp; omega) _).alloc (by simp; omega) _).alloc (by simp; omega) _
  have b6 : Below W5.heap.size W5 (W5.alloc (.cells #[.bool false] 4)) := (Below.refl _ _).alloc (Nat.le_refl _) _
  have k0 : W5.heap[w.heap.size]? = some (.cells #[.int .i64 which] 3 (0, 0)) := by
    rw [hW5]; show (((((w.heap.push _).push _).push _).push _).push _)[_]? = _; (repeat (first | (rw [Array.getElem?_push, if_pos (by simp)]; done) | (rw [Array.getElem?_push, if_neg (by simp <;> omega)])))
  have k1 : W5.heap[w.heap.size + 1]? = some (.cells #[.string (bs l)] 9 (0, 0)) := by
    rw [hW5]; show (((((w.heap.push _).push _).push _).push _).push _)[_]? = _; (repeat (first | (rw [Array.getElem?_push, if_pos (by simp)]; done) | (rw [Array.getElem?_push, if_neg (by simp <;> omega)])))
  have k2 : W5.heap[w.heap.size + 1 + 1]? = some (.cells (timeCells T) 23 (0, 0)) := by
    rw [hW5]; show (((((w.heap.push _).push _).push _).push _).push _)[_]? = _; (repeat (first | (rw [Array.getElem?_push, if_pos (by simp)]; done) | (rw [Array.getElem?_push, if_neg (by simp <;> omega)])))
  have k3 : W5.heap[w.heap.size + 1 + 1 + 1]? = some (.cells #[.string { data := #[] }] 9 (0, 0)) := by
    rw [hW5]; show (((((w.heap.push _).push _).push _).push _).push _)[_]? = _; (repeat (first | (rw [Array.getElem?_push, if_pos (by simp)]; done) | (rw [Array.getElem?_push, if_neg (by simp <;> omega)])))
  have k4 : W5.heap[w.heap.size + 1 + 1 + 1 + 1]? = some (.cells #[.bool false] 4 (0, 0)) := by
    rw [hW5]; show (((((w.heap.push _).push _).push _).push _).push _)[_]? = _; (repeat (first | (rw [Array.getElem?_push, if_pos (by simp)]; done) | (rw [Array.getElem?_push, if_neg (by simp <;> omega)])))
  have H : Calls Tryz.prog 14 #[.func (.func 15) #[] #[.pointer (some ⟨w.heap.size, 0, none⟩), .pointer (some ⟨w.heap.size + 1, 0, none⟩), .pointer (some ⟨w.heap.size + 1 + 1, 0, none⟩), .pointer (some ⟨w.heap.size + 1 + 1 + 1, 0, none⟩), .pointer (some ⟨w.heap.size + 1 + 1 + 1 + 1, 0, none⟩)]] W5 (QuietPost W5 (w.heap.size + 1 + 1 + 1) (w.heap.size + 1 + 1 + 1 + 1) X) := by
    refine quiet_any W5 _ _ _ _ _ X (by omega) (by omega) ?_
    have hB6 := (hB.below b5).below b6
    have g0 := keep_cell b6 (cell_of_one k0)
    have g1 := keep_cell b6 (cell_of_one k1)
    have g2 := (b6.block _ (lt_of_block k2)).trans k2
    have g3 := keep_cell b6 (cell_of_one k3)
    have g4 := keep_cell b6 (cell_of_one k4)
    have f3 := keep_frozen b6 (lt_of_block k3) (frozen_of_row _ _ 0 _ _ k3)
    have f4 := keep_frozen b6 (lt_of_block k4) (frozen_of_row _ _ 0 _ _ k4)
    rcases hw with ⟨rfl, hf⟩ | rfl
    · exact clos_first hR hB6 hx hf hl hX g0 g1 g2 g3 g4 f3 f4 (by omega)
    · exact clos_second hR hB6 hx hl hX g0 g1 g2 g3 g4 f3 f4 (by omega)
  have c3 := cell_of_one k3
  have c4 := cell_of_one k4
  have f3 := frozen_of_row _ _ 0 _ _ k3
  have f4 := frozen_of_row _ _ 0 _ _ k4
  have l3 := lt_of_block k3
  have l4 := lt_of_block k4
  have HW := Lib.hid hW5
  have B5 := Lib.hid b5
  clear k0 k1 k2 k3 k4 b5 b6 hx hw hW5
  unfold timeCells at *
  go_enter Tryz.func11, Tryz.ntmps11
  go_wp2_with (fail)
  rw [← HW.out]
  refine H.mono ?_
  rintro e w1 ⟨rfl, w2, hb2, hlt2, rfl⟩
  have d3 := keep_cell hb2 c3
  have d4 := keep_cell hb2 c4
  have q3 := keep_frozen hb2 l3 f3
  have q4 := keep_frozen hb2 l4 f4
  have B2 := Lib.hid (B5.out.trans (hb2.mono (by omega)))
  rw [s5] at hlt2 ⊢
  generalize hp4 : w.heap.size + 1 + 1 + 1 + 1 = p4 at *
  generalize hp3 : w.heap.size + 1 + 1 + 1 = p3 at *
  generalize hq : w.heap.size + 5 = q at *
  have n34 : p3 ≠ p4 := by omega
  have n43 : p4 ≠ p3 := by omega
  have n3q : p3 ≠ q := by omega
  have nq3 : q ≠ p3 := by omega
  have n4q : p4 ≠ q := by omega
  have nq4 : q ≠ p4 := by omega
  have z3 : p3 < w2.heap.size := by omega
  have z4 : p4 < w2.heap.size := by omega
  clear H hb2 c3 c4 f3 f4 l3 l4 s5
  dsimp only
  go_wp2
  have bw : ∀ (u : World) (p : Nat) (v : Value), w.heap.size ≤ p → Below w.heap.size w u → Below w.heap.size w (u.setCell ⟨p, 0, none⟩ v) := fun u p v hp hb => hb.setCell hp v
  have r4 : (((((w2.setCell ⟨p3, 0, none⟩ (.string (bs X))).setCell ⟨p4, 0, none⟩ (.bool true)).setCell ⟨q, 0, none⟩ (.bool true)).setCell ⟨p3, 0, none⟩ (.string (bs X))).setCell ⟨p4, 0, none⟩ (.bool true)).cell? ⟨p4, 0, none⟩ = some (.bool true) := by
    refine World.cell?_setCell_same _ _ _ (u := .bool true) ?_
    go_simp
  refine bodyPost_ret (v := .tuple #[.string (bs X), .bool true]) (by simp [results, Tryz.results11, go_sem, d3, d4, n34, n43, n3q, nq3, n4q, nq4, r4]) rfl ⟨rfl, ?_⟩
  exact bw _ _ _ (by omega) (bw _ _ _ (by omega) (bw _ _ _ (by omega) (bw _ _ _ (by omega) (bw _ _ _ (by omega) B2.out))))
end Go.Proofs.YtkcgngpoegglnaaGreatDoor
end
/- The reference: days and weeks of a time. -/
section
namespace Go.Proofs.YtkcgngpoegglnaaGreatDoor
open Go Go.RowKit
set_option linter.unusedVariables false
set_option linter.unusedSimpArgs false

theorem cumM_bd (y k : Int) : 0 ≤ cumM y k ∧ cumM y k ≤ 400 := by
  have := lpY_bd y
  unfold cumM
  repeat (first | omega | split)

/-- the box of a time, in block b. -/
def TimeBox (w : World) (T : STime) (b : Nat) : Prop := w.heap[b]? = some (.cells (timeCells T) 25 (0, 0))

theorem TimeBox.cells {w : World} {T : STime} {b : Nat} (h : TimeBox w T b) : w.cell? ⟨b, 0, none⟩ = some (.int .i64 T.y) ∧ w.cell? ⟨b, 1, none⟩ = some (.int .i64 T.m) ∧ w.cell? ⟨b, 2, none⟩ = some (.int .i64 T.d) ∧ w.cell? ⟨b, 3, none⟩ = some (.int .i64 T.hh) ∧ w.cell? ⟨b, 4, none⟩ = some (.int .i64 T.mm) ∧ w.cell? ⟨b, 5, none⟩ = some (.int .i64 T.ss) ∧ w.cell? ⟨b, 6, none⟩ = some (.int .i64 T.ns) ∧ w.cell? ⟨b, 7, none⟩ = some (.int .i64 T.off) ∧ w.cell? ⟨b, 8, none⟩ = some (.string T.nm) := by
  refine ⟨?_, ?_, ?_, ?_, ?_, ?_, ?_, ?_, ?_⟩ <;> (rw [cell_of_row w b _ _ _ _ h]; rfl)

theorem TimeBox.keep {w w' : World} {T : STime} {b : Nat} (h : TimeBox w T b) (hb : Below w.heap.size w w') : TimeBox w' T b := (hb.block b (lt_of_block h)).trans h

theorem TimeBox.new (w : World) (T : STime) : TimeBox (w.alloc (.cells (timeCells T) 25)) T w.heap.size := new_block w _

/-- what holds at the head of a round. -/
def YdI (T : STime) (w0 : World) (t3 t4 : Value) (w : World) : Prop :=
  ∃ k : Int, 1 ≤ k ∧ k ≤ T.m ∧ t3 = .int .i64 (cumM T.y k + T.d) ∧ t4 = .int .i64 k ∧ Below w0.heap.size w0 w ∧ TimeBox w T w0.heap.size

set_option maxRecDepth 100000 in
set_option maxHeartbeats 4000000 in
theorem yearDay_sp (T : STime) (hR : RightT T) (w : World) : Calls Tryz.prog 27 #[.agg (timeCells T)] w fun e w' => e = .returned (.int .i64 (ydT T)) ∧ Below w.heap.size w w' := by
  have hy0 := hR.y0
  have hy1 := hR.y1
  have hm0 := hR.m0
  have hm1 := hR.m1
  have hd0 := hR.d0
  have hd1 := hR.dd
  have hbl : Below w.heap.size w (w.alloc (.cells (timeCells T) 25)) := (Below.refl _ _).alloc (Nat.le_refl _) _
  have I0 := Lib.hid (show YdI T w (.int .i64 T.d) (.int .i64 1) (w.alloc (.cells (timeCells T) 25)) from ⟨1, by omega, hm0, by simp [cumM], rfl, hbl, TimeBox.new w T⟩)
  obtain ⟨g0, g1, g2, _⟩ := (TimeBox.new w T).cells
  clear hbl
  unfold timeCells at *
  go_enter Tryz.func27, Tryz.ntmps27
  go_wp2
  go_loopw [3, 4] (fun t3 t4 wr => YdI T w t3 t4 wr) (fun _ t4 _ => (T.m - intOf t4).toNat)
  case atStart => exact I0.out
  case round =>
    obtain ⟨k, k1, k2, rfl, rfl, hb, hT⟩ := hrel
    obtain ⟨c0, c1, _⟩ := hT.cells
    have hlt := lt_of_block hT
    obtain ⟨b0, b1⟩ := cumM_bd T.y k
    have HT := Lib.hid hT
    have HB := Lib.hid hb
    clear hT hb
    by_cases hk : k < T.m
    · have hn := cumM_next T.y k k1 (by omega)
      have hlm := lenM_bd T.y k
      have HL := fun w => length_any T.y k w (by omega) (by omega) k1 (by omega)
      generalize cumM T.y k = c at *
      generalize lenM T.y k = n at *
      have HN := Lib.hid hn
      clear hn
      go_wp2_with (first | (go_at_call 12; refine (HL _).mono ?_; rintro e w1 ⟨rfl, hb1⟩; have B1 := Lib.hid hb1; clear hb1))
      go_roundw
      case rel => exact ⟨k + 1, by omega, by omega, by rw [HN.out]; go_num, rfl, HB.out.trans (B1.out.mono HB.out.size), HT.out.keep B1.out⟩
      case measure => simp [intOf]; omega
    · have hkm : k = T.m := by omega
      have hyd : cumM T.y k + T.d = ydT T := by rw [hkm]; rfl
      rw [hyd]
      go_wp2
      go_ret
      exact ⟨rfl, HB.out⟩

set_option maxRecDepth 100000 in
set_option maxHeartbeats 4000000 in
theorem weekDay_sp (T : STime) (hR : RightT T) (w : World) : Calls Tryz.prog 23 #[.agg (timeCells T)] w fun e w' => e = .returned (.int .i64 (wdT T)) ∧ Below w.heap.size w w' := by
  have H := fun w => yearDay_sp T hR w
  have hy0 := hR.y0
  have hy1 := hR.y1
  obtain ⟨b1, b2, b3⟩ := abs_day T.y T.m T.d hR.m0 hR.m1 hR.d0 hR.d1
  have hlp := lpY_bd T.y
  have hwd : wdT T = (T.y - 1) * 365 + (T.y - 1) / 4 - (T.y - 1) / 100 + (T.y - 1) / 400 + ydT T - 7 * (((T.y - 1) * 365 + (T.y - 1) / 4 - (T.y - 1) / 100 + (T.y - 1) / 400 + ydT T) / 7) := by
    unfold wdT wdF dbY ydT; omega
  have hyd : 1 ≤ ydT T ∧ ydT T ≤ 366 := by unfold ydT; omega
  unfold timeCells at *
  generalize ydT T = yd at *
  have e1 : Int.tdiv (T.y - 1) 4 = (T.y - 1) / 4 := Int.tdiv_eq_ediv_of_nonneg (by omega)
  have e2 : Int.tdiv (T.y - 1) 100 = (T.y - 1) / 100 := Int.tdiv_eq_ediv_of_nonneg (by omega)
  have e3 : Int.tdiv (T.y - 1) 400 = (T.y - 1) / 400 := Int.tdiv_eq_ediv_of_nonneg (by omega)
  have e4 : Int.tmod ((T.y - 1) * 365 + (T.y - 1) / 4 - (T.y - 1) / 100 + (T.y - 1) / 400 + yd) 7 = wdT T := by
    rw [Int.tmod_eq_emod_of_nonneg (by omega)]; omega
  have HH := Lib.hid (And.intro b1 (And.intro b2 b3))
  have HW := Lib.hid hwd
  clear b1 b2 b3 hwd
  go_enter Tryz.func23, Tryz.ntmps23
  go_wp2_with (first | (go_at_call 27; refine (H _).mono ?_; rintro e w1 ⟨rfl, hb1⟩))
  go_ret
  exact ⟨rfl, ((Below.refl _ _).alloc (Nat.le_refl _) _).trans (hb1.mono (by simp))⟩
end Go.Proofs.YtkcgngpoegglnaaGreatDoor
end
/- The reference: numbers with signs ahead. -/
section
namespace Go.Proofs.YtkcgngpoegglnaaGreatDoor
open Go Go.RowKit
set_option linter.unusedVariables false
set_option linter.unusedSimpArgs false

/-- the digits of a number, ahead of what has been written. -/
def decF (fuel : Nat) (n : Int) (s : List UInt8) : List UInt8 :=
  match fuel with
  | 0 => dg n :: s
  | f + 1 => if n < 10 then dg n :: s else decF f (n / 10) (dg (n % 10) :: s)

/-- signs ahead of a text. -/
def padL (width : Nat) (c : UInt8) (s : List UInt8) : List UInt8 := List.replicate (width - s.length) c ++ s

theorem padL_step (width : Nat) (c : UInt8) (s : List UInt8) (h : s.length < width) : padL width c (c :: s) = padL width c s := by
  unfold padL
  obtain ⟨k, hk⟩ : ∃ k, width - s.length = k + 1 := ⟨width - s.length - 1, by omega⟩
  have : width - (c :: s).length = k := by simp; omega
  rw [this, hk, List.replicate_succ', List.append_assoc]
  rfl
theorem padL_done (width : Nat) (c : UInt8) (s : List UInt8) (h : ¬ s.length < width) : padL width c s = s := by
  unfold padL
  rw [show width - s.length = 0 by omega]; rfl

theorem conv_one (w : World) (c : UInt8) : (convert 34 9 (.slice (some ⟨w.heap.size, 0, none⟩) 1 1)).run Tryz.prog (w.alloc (.cells #[.int .u8 c.toNat] 5)) = .ok (.string (bs [c])) (w.alloc (.cells #[.int .u8 c.toNat] 5)) := by
  refine run_convert_bytes_back _ 34 9 5 ⟨w.heap.size, 0, none⟩ 1 [c] Tryz.underlying34 Tryz.underlying5 Tryz.underlying9 fun j hj => ?_
  obtain rfl : j = 0 := by simpa using hj
  exact cell_of_one (new_block w _)

theorem conv_dg (w : World) (x : Int) (h0 : 0 ≤ x) (h1 : x ≤ 9) : (convert 34 9 (.slice (some ⟨w.heap.size, 0, none⟩) 1 1)).run Tryz.prog (w.alloc (.cells #[.int .u8 (48 + x)] 5)) = .ok (.string (bs [dg x])) (w.alloc (.cells #[.int .u8 (48 + x)] 5)) := by
  have h := conv_one w (dg x)
  have e : Value.int .u8 ((dg x).toNat : Int) = .int .u8 (48 + x) := (bv_dg x h0 h1).symm
  rw [e] at h
  exact h

/-- at the head of a round of the first loop. -/
def PadI (w0 : World) (D : List UInt8) (t0 t7 : Value) (w : World) : Prop :=
  ∃ (f : Nat) (k : Int) (s : List UInt8), t0 = .int .i64 k ∧ t7 = .string (bs s) ∧ 0 ≤ k ∧ k ≤ 10000 ∧ k < 10 * 10 ^ f ∧ f + s.length ≤ 10 ∧ decF f k s = D ∧ Below w0.heap.size w0 w
/-- of the second. -/
def PadJ (w0 : World) (width : Nat) (c : UInt8) (R : List UInt8) (t7 : Value) (w : World) : Prop :=
  ∃ s : List UInt8, t7 = .string (bs s) ∧ s.length ≤ 30 ∧ padL width c s = R ∧ Below w0.heap.size w0 w

def strLen (v : Value) : Nat := match v with | .string s => s.size | _ => 0

theorem decF_len (f : Nat) : ∀ (n : Int) (s : List UInt8), (decF f n s).length ≤ f + s.length + 1 := by
  induction f with
  | zero => intro n s; simp [decF]
  | succ f ih =>
    intro n s
    unfold decF
    split
    · simp
    · have := ih (n / 10) (dg (n % 10) :: s); simp at this ⊢; omega

set_option maxRecDepth 100000 in
set_option maxHeartbeats 8000000 in
theorem padded_any (n : Int) (width : Nat) (c : UInt8) (w : World) (h0 : 0 ≤ n) (h1 : n < 10000) (hw : width ≤ 10) :
    Calls Tryz.prog 25 #[.int .i64 n, .int .i64 width, .int .u8 c.toNat] w fun e w' => e = .returned (.string (bs (padL width c (decF 3 n [])))) ∧ Below w.heap.size w w' := by
  have I0 := Lib.hid (show PadI w (decF 3 n []) (.int .i64 n) (.string (bs [])) w from ⟨3, n, [], rfl, rfl, h0, by omega, by omega, by decide, rfl, Below.refl _ _⟩)
  have hDl := decF_len 3 n []
  simp at hDl
  generalize decF 3 n [] = D at *
  obtain ⟨R, hR⟩ : ∃ R, R = padL width c D := ⟨_, rfl⟩
  have HR := Lib.hid hR
  rw [← hR]
  clear hR
  go_enter Tryz.func25, Tryz.ntmps25
  go_wp2
  go_loopw [0, 7] (fun t0 t7 wr => PadI w D t0 t7 wr) (fun t0 _ _ => (intOf t0).toNat)
  case atStart => exact I0.out
  case round =>
    obtain ⟨f, k, s, rfl, rfl, k0, km, k1, ksl, hD, hb⟩ := hrel
    clear h0 h1 I0
    by_cases hk : 10 ≤ k
    · obtain ⟨f, rfl⟩ : ∃ g, f = g + 1 := by
        cases f with
        | zero => omega
        | succ g => exact ⟨g, rfl⟩
      have hD2 : decF f (k / 10) (dg (k % 10) :: s) = D := by
        rw [← hD, decF, if_neg (by omega)]
      have hx0 : 0 ≤ k % 10 ∧ k % 10 ≤ 9 := by omega
      have hq1 : k / 10 < 10 * 10 ^ f := by rw [Int.pow_succ] at k1; omega
      have hq0 : 0 ≤ k / 10 := by omega
      have hqk : k / 10 < k := by omega
      have hq9 : 0 ≤ k / 10 ∧ k / 10 ≤ 10000 := by omega
      have e1 : Int.tmod k 10 = k % 10 := Int.tmod_eq_emod_of_nonneg (by omega)
      have e2 : Int.tdiv k 10 = k / 10 := Int.tdiv_eq_ediv_of_nonneg (by omega)
      have hcv := conv_dg wr (k % 10) hx0.1 hx0.2
      have hap : bs [dg (k % 10)] ++ bs s = bs (dg (k % 10) :: s) := bs_append _ _
      have hsum : ¬ (9223372036854775807 < (bs [dg (k % 10)]).size + (bs s).size) := by rw [bs_size, bs_size]; simp; omega
      have HB := Lib.hid hb
      have HD := Lib.hid (And.intro hD2 (And.intro hq1 hq0))
      clear hD hD2 hb hq1 k1 hq0
      generalize hxx : k % 10 = x at *
      generalize k / 10 = q at *
      generalize bs [dg x] = u at *
      generalize hvv : bs (dg x :: s) = uv at *
      generalize bs s = v at *
      go_wp2
      go_roundw
      case rel =>
        subst hvv
        exact ⟨f, q, dg x :: s, rfl, rfl, HD.out.2.2, by omega, HD.out.2.1, by simp; omega, HD.out.1, HB.out.alloc HB.out.size _⟩
      case measure => simp [intOf]; omega
    · have hk9 : k ≤ 9 := by omega
      have hD2 : dg k :: s = D := by
        rw [← hD]
        cases f with
        | zero => rfl
        | succ g => rw [decF, if_pos (by omega)]
      have hcv := conv_dg wr k k0 hk9
      have hap : bs [dg k] ++ bs s = bs D := by rw [← hD2]; exact bs_append _ _
      have hsum : ¬ (9223372036854775807 < (bs [dg k]).size + (bs s).size) := by rw [bs_size, bs_size]; simp; omega
      have J0 := Lib.hid (show PadJ w width c R (.string (bs D)) (wr.alloc (.cells #[.int .u8 (48 + k)] 5)) from ⟨D, rfl, by omega, HR.out.symm, hb.alloc hb.size _⟩)
      clear hD hD2 hb k1
      generalize bs [dg k] = u at *
      generalize bs D = bD at *
      generalize bs s = v at *
      go_wp2
      go_loopw [7] (fun t7 wr => PadJ w width c R t7 wr) (fun t7 _ => width - strLen t7)
      case atStart => exact J0.out
      case round =>
        obtain ⟨s2, rfl, sl2, hp2, hb2⟩ := hrel
        clear J0 hcv hap hsum
        have hsz : (bs s2).size = s2.length := bs_size s2
        by_cases hlt : s2.length < width
        · have hcv := conv_one wr c
          have hap : bs [c] ++ bs s2 = bs (c :: s2) := bs_append _ _
          have hsum : ¬ (9223372036854775807 < (bs [c]).size + (bs s2).size) := by rw [bs_size, bs_size]; simp; omega
          have hltv : ((bs s2).size : Int) < (width : Int) := by omega
          have HB := Lib.hid hb2
          have HP := Lib.hid (padL_step width c s2 hlt)
          have HP2 := Lib.hid hp2
          have hsz2 : (bs (c :: s2)).size = s2.length + 1 := by rw [bs_size]; rfl
          have HZ := Lib.hid (And.intro hsz hsz2)
          clear hb2 hp2 hsz hsz2
          generalize bs [c] = u at *
          generalize hvv : bs (c :: s2) = uv at *
          generalize bs s2 = v2 at *
          go_wp2
          go_roundw
          case rel =>
            subst hvv
            exact ⟨c :: s2, rfl, by simp; omega, by rw [HP.out]; exact HP2.out, HB.out.alloc HB.out.size _⟩
          case measure => simp [strLen]; have := HZ.out.1; have := HZ.out.2; omega
        · have hnl : ¬ ((bs s2).size : Int) < (width : Int) := by omega
          have e : s2 = R := by rw [← hp2]; exact (padL_done width c s2 hlt).symm
          subst e
          have HB := Lib.hid hb2
          clear hb2 hp2 hsz
          go_wp2
          go_ret
          exact ⟨rfl, HB.out⟩
end Go.Proofs.YtkcgngpoegglnaaGreatDoor
end
