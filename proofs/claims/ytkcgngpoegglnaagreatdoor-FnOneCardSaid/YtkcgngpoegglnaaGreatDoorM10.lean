/- The names of days and months: the contracts of the functions that give them. · The texts of the elements of a layout. · The second package: the contracts of its small appending functions. -/
import Derived.Test.YtkcgngpoegglnaaGreatDoorM03
import Derived.Test.YtkcgngpoegglnaaGreatDoorM04
import Derived.Test.YtkcgngpoegglnaaGreatDoorM08
import Derived.Test.YtkcgngpoegglnaaGreatDoorM02
import Derived.Test.YtkcgngpoegglnaaGreatDoorM09
/- The names of days and months: the contracts of the functions that give them. -/
section
namespace Go.Proofs.YtkcgngpoegglnaaGreatDoor
open Go Go.RowKit
set_option linter.unusedVariables false

def monthNames : List (List UInt8) := [[74, 97, 110, 117, 97, 114, 121], [70, 101, 98, 114, 117, 97, 114, 121], [77, 97, 114, 99, 104], [65, 112, 114, 105, 108], [77, 97, 121], [74, 117, 110, 101], [74, 117, 108, 121], [65, 117, 103, 117, 115, 116], [83, 101, 112, 116, 101, 109, 98, 101, 114], [79, 99, 116, 111, 98, 101, 114], [78, 111, 118, 101, 109, 98, 101, 114], [68, 101, 99, 101, 109, 98, 101, 114]]
abbrev monthCells : Array Value := #[.string ⟨#[74, 97, 110, 117, 97, 114, 121]⟩, .string ⟨#[70, 101, 98, 114, 117, 97, 114, 121]⟩, .string ⟨#[77, 97, 114, 99, 104]⟩, .string ⟨#[65, 112, 114, 105, 108]⟩, .string ⟨#[77, 97, 121]⟩, .string ⟨#[74, 117, 110, 101]⟩, .string ⟨#[74, 117, 108, 121]⟩, .string ⟨#[65, 117, 103, 117, 115, 116]⟩, .string ⟨#[83, 101, 112, 116, 101, 109, 98, 101, 114]⟩, .string ⟨#[79, 99, 116, 111, 98, 101, 114]⟩, .string ⟨#[78, 111, 118, 101, 109, 98, 101, 114]⟩, .string ⟨#[68, 101, 99, 101, 109, 98, 101, 114]⟩]
def dayNames : List (List UInt8) := [[83, 117, 110, 100, 97, 121], [77, 111, 110, 100, 97, 121], [84, 117, 101, 115, 100, 97, 121], [87, 101, 100, 110, 101, 115, 100, 97, 121], [84, 104, 117, 114, 115, 100, 97, 121], [70, 114, 105, 100, 97, 121], [83, 97, 116, 117, 114, 100, 97, 121]]
abbrev dayCells : Array Value := #[.string ⟨#[83, 117, 110, 100, 97, 121]⟩, .string ⟨#[77, 111, 110, 100, 97, 121]⟩, .string ⟨#[84, 117, 101, 115, 100, 97, 121]⟩, .string ⟨#[87, 101, 100, 110, 101, 115, 100, 97, 121]⟩, .string ⟨#[84, 104, 117, 114, 115, 100, 97, 121]⟩, .string ⟨#[70, 114, 105, 100, 97, 121]⟩, .string ⟨#[83, 97, 116, 117, 114, 100, 97, 121]⟩]
def monthName (m : Int) : List UInt8 := monthNames.getD (m - 1).toNat []
def dayName (d : Int) : List UInt8 := dayNames.getD d.toNat []

theorem longMonthNames_any (w : World) : Calls Tryz.prog 92 #[] w fun e w' => e = .returned (.slice (some ⟨w.heap.size, 0, none⟩) 12 12) ∧ w.alloc (.cells monthCells 9) = w' := by
  go_enter Tryz.func92, Tryz.ntmps92
  go_wp2
  go_ret
  exact ⟨rfl, rfl⟩

theorem longDayNames_any (w : World) : Calls Tryz.prog 86 #[] w fun e w' => e = .returned (.slice (some ⟨w.heap.size, 0, none⟩) 7 7) ∧ w.alloc (.cells dayCells 9) = w' := by
  go_enter Tryz.func86, Tryz.ntmps86
  go_wp2
  go_ret
  exact ⟨rfl, rfl⟩

theorem specMonths_any (w : World) : Calls Tryz.prog 24 #[] w fun e w' => e = .returned (.slice (some ⟨w.heap.size, 0, none⟩) 12 12) ∧ w.alloc (.cells monthCells 9) = w' := by
  go_enter Tryz.func24, Tryz.ntmps24
  go_wp2
  go_ret
  exact ⟨rfl, rfl⟩

theorem specDays_any (w : World) : Calls Tryz.prog 22 #[] w fun e w' => e = .returned (.slice (some ⟨w.heap.size, 0, none⟩) 7 7) ∧ w.alloc (.cells dayCells 9) = w' := by
  go_enter Tryz.func22, Tryz.ntmps22
  go_wp2
  go_ret
  exact ⟨rfl, rfl⟩

theorem monthString_any (m : Int) (w : World) (h0 : 1 ≤ m) (h1 : m ≤ 12) : Calls Tryz.prog 56 #[.int .i64 m] w fun e w' => e = .returned (.string (bs (monthName m))) ∧ Below w.heap.size w w' := by
  have hm : m = 1 ∨ m = 2 ∨ m = 3 ∨ m = 4 ∨ m = 5 ∨ m = 6 ∨ m = 7 ∨ m = 8 ∨ m = 9 ∨ m = 10 ∨ m = 11 ∨ m = 12 := by omega
  rcases hm with rfl | rfl | rfl | rfl | rfl | rfl | rfl | rfl | rfl | rfl | rfl | rfl
  all_goals
    go_enter Tryz.func56, Tryz.ntmps56
    go_wp2_with (first | (go_at_call 92; refine (longMonthNames_any _).mono ?_; rintro e w' ⟨rfl, rfl⟩))
    go_ret
    exact ⟨rfl, (Below.refl _ _).alloc (Nat.le_refl _) _⟩

theorem dayString_any (m : Int) (w : World) (h0 : 0 ≤ m) (h1 : m ≤ 6) : Calls Tryz.prog 54 #[.int .i64 m] w fun e w' => e = .returned (.string (bs (dayName m))) ∧ Below w.heap.size w w' := by
  have hm : m = 0 ∨ m = 1 ∨ m = 2 ∨ m = 3 ∨ m = 4 ∨ m = 5 ∨ m = 6 := by omega
  rcases hm with rfl | rfl | rfl | rfl | rfl | rfl | rfl
  all_goals
    go_enter Tryz.func54, Tryz.ntmps54
    go_wp2_with (first | (go_at_call 86; refine (longDayNames_any _).mono ?_; rintro e w' ⟨rfl, rfl⟩))
    go_ret
    exact ⟨rfl, (Below.refl _ _).alloc (Nat.le_refl _) _⟩

end Go.Proofs.YtkcgngpoegglnaaGreatDoor
end
/- The texts of the elements of a layout. -/
section
namespace Go.Proofs.YtkcgngpoegglnaaGreatDoor
open Go

/-- the elements of a layout that are met. -/
inductive El where
  | january | jan | monday | mon | z1 | z2 | z3 | z4 | z5 | z6 | z002 | u2 | y4 | h15 | pm | mst | tz

def El.bytes : El → List UInt8
  | .january => [74, 97, 110, 117, 97, 114, 121]
  | .jan => [74, 97, 110]
  | .monday => [77, 111, 110, 100, 97, 121]
  | .mon => [77, 111, 110]
  | .z1 => [48, 49]
  | .z2 => [48, 50]
  | .z3 => [48, 51]
  | .z4 => [48, 52]
  | .z5 => [48, 53]
  | .z6 => [48, 54]
  | .z002 => [48, 48, 50]
  | .u2 => [95, 50]
  | .y4 => [50, 48, 48, 54]
  | .h15 => [49, 53]
  | .pm => [80, 77]
  | .mst => [77, 83, 84]
  | .tz => [45, 48, 55, 48, 48]

def El.std : El → Int
  | .january => 257
  | .jan => 258
  | .monday => 261
  | .mon => 262
  | .z1 => 260
  | .z2 => 265
  | .z3 => 1038
  | .z4 => 1040
  | .z5 => 1042
  | .z6 => 276
  | .z002 => 523
  | .u2 => 264
  | .y4 => 275
  | .h15 => 1036
  | .pm => 1045
  | .mst => 23
  | .tz => 29

/-- two digits, three, four. -/
def d2 (n : Int) : List UInt8 := [dg (n / 10), dg (n % 10)]
def d3 (n : Int) : List UInt8 := [dg (n / 100), dg (n / 10 % 10), dg (n % 10)]
def d4 (n : Int) : List UInt8 := [dg (n / 1000), dg (n / 100 % 10), dg (n / 10 % 10), dg (n % 10)]
/-- an hour of twelve. -/
def h12 (h : Int) : Int := if h % 12 = 0 then 12 else h % 12
/-- the text of an offset. -/
def offText (off : Int) : List UInt8 := if off < 0 then 45 :: (d2 (-off / 3600) ++ d2 (-off / 60 % 60)) else 43 :: (d2 (off / 3600) ++ d2 (off / 60 % 60))

/-- the text of an element, of the time with the absolute second A, in a place of this name and offset. -/
def El.text (A : Int) (nm : ByteArray) (off : Int) : El → List UInt8
  | .january => monthName (monthF (A / 86400))
  | .jan => (monthName (monthF (A / 86400))).take 3
  | .monday => dayName ((A / 86400 + 3) % 7)
  | .mon => (dayName ((A / 86400 + 3) % 7)).take 3
  | .z1 => d2 (monthF (A / 86400))
  | .z2 => d2 (dayF (A / 86400))
  | .z3 => d2 (h12 (A % 86400 / 3600))
  | .z4 => d2 (A % 3600 / 60)
  | .z5 => d2 (A % 60)
  | .z6 => d2 (yearF (A / 86400) % 100)
  | .z002 => d3 (ydayF (A / 86400))
  | .u2 => if dayF (A / 86400) < 10 then [32, dg (dayF (A / 86400))] else d2 (dayF (A / 86400))
  | .y4 => d4 (yearF (A / 86400))
  | .h15 => d2 (A % 86400 / 3600)
  | .pm => if 12 ≤ A % 86400 / 3600 then [80, 77] else [65, 77]
  | .mst => nm.data.toList
  | .tz => offText off
end Go.Proofs.YtkcgngpoegglnaaGreatDoor
end
/- The second package: the contracts of its small appending functions. -/
section
namespace Go.Proofs.YtkcgngpoegglnaaGreatDoor
open Go Go.RowKit
set_option linter.unusedVariables false
set_option linter.unusedSimpArgs false

section
variable {wl ex : Int} {lc : Option Addr} {A : Int} {nm : ByteArray} {off : Int} {w : World} {C : Nat}

theorem append12_any (h : TimeAt w C wl ex lc A nm off) (v : Value) (g : Nat) (out : List UInt8) (hB : Buf w g v out) (hl : out.length ≤ 700000) :
    Calls Tryz.prog 59 #[v, .agg #[.int .u64 wl, .int .i64 ex, .pointer lc], .int .u8 0] w (AppPost w g (out ++ d2 (h12 (A % 86400 / 3600)))) := by
  have hlt := hB.lt
  have h0 : 0 ≤ A % 86400 / 3600 ∧ A % 86400 / 3600 < 24 := by omega
  have H := fun o => hour_of (h.alloc o)
  generalize A % 86400 / 3600 = hr at *
  obtain ⟨h0, h1⟩ := h0
  unfold d2 h12
  rcases Decidable.em (hr = 0) with hz | hz
  · subst hz
    go_enter Tryz.func59, Tryz.ntmps59
    go_wp2_with (first | (go_at_call 60; refine (H _).mono ?_; rintro e w1 ⟨rfl, hb⟩) | (go_at_call 57; refine (appendInt2_zero _ 12 _ _ _ ((hB.alloc _).below hb (by simp; omega)) (by omega) (by omega) (by omega)).mono ?_; rintro e w2 ⟨g', v', rfl, happ⟩))
    go_ret
    exact ⟨_, _, rfl, happ.pre (((Below.refl _ _).alloc (Nat.le_refl _) _).trans (hb.mono (by simp)))⟩
  · have hz' : (hr == 0) = false := beq_eq_false_iff_ne.mpr hz
    rcases Decidable.em (12 < hr) with hg | hg
    · have e12 : (if hr % 12 = 0 then (12 : Int) else hr % 12) = hr - 12 := by split <;> omega
      rw [e12]
      clear e12
      go_enter Tryz.func59, Tryz.ntmps59
      go_wp2_with (first | (go_at_call 60; refine (H _).mono ?_; rintro e w1 ⟨rfl, hb⟩) | (go_at_call 57; refine (appendInt2_zero _ (hr - 12) _ _ _ ((hB.alloc _).below hb (by simp; omega)) (by omega) (by omega) (by omega)).mono ?_; rintro e w2 ⟨g', v', rfl, happ⟩))
      go_ret
      exact ⟨_, _, rfl, happ.pre (((Below.refl _ _).alloc (Nat.le_refl _) _).trans (hb.mono (by simp)))⟩
    · have e12 : (if hr % 12 = 0 then (12 : Int) else hr % 12) = hr := by split <;> omega
      rw [e12]
      clear e12
      go_enter Tryz.func59, Tryz.ntmps59
      go_wp2_with (first | (go_at_call 60; refine (H _).mono ?_; rintro e w1 ⟨rfl, hb⟩) | (go_at_call 57; refine (appendInt2_zero _ hr _ _ _ ((hB.alloc _).below hb (by simp; omega)) (by omega) (by omega) (by omega)).mono ?_; rintro e w2 ⟨g', v', rfl, happ⟩))
      go_ret
      exact ⟨_, _, rfl, happ.pre (((Below.refl _ _).alloc (Nat.le_refl _) _).trans (hb.mono (by simp)))⟩

theorem weekNum_sun (h : TimeAt w C wl ex lc A nm off) (v : Value) (g : Nat) (out : List UInt8) (hB : Buf w g v out) (hl : out.length ≤ 700000) :
    Calls Tryz.prog 67 #[v, .agg #[.int .u64 wl, .int .i64 ex, .pointer lc], .int .u8 0, .bool true] w (AppPost w g (out ++ d2 ((ydayF (A / 86400) + 6 - (A / 86400 + 3) % 7) / 7))) := by
  have hlt := hB.lt
  have h0 : 0 ≤ (A / 86400 + 3) % 7 ∧ (A / 86400 + 3) % 7 < 7 := by omega
  have hy := ydayF_bd (A / 86400)
  have hC := h.b
  have H := fun o => weekday_of (h.alloc o)
  have H2 := fun o w1 (hb : Below (w.alloc o).heap.size (w.alloc o) w1) => yearDay_of (w := w1) ((h.alloc o).below hb (by simp; omega))
  generalize (A / 86400 + 3) % 7 = wd at *
  generalize ydayF (A / 86400) = yd at *
  have e1 : (yd + 6 - wd) / 7 = (yd + (6 - wd)) / 7 := by congr 1; omega
  rw [e1]
  unfold d2
  clear e1
  go_enter Tryz.func67, Tryz.ntmps67
  go_wp2_with (first | (go_at_call 53; refine (H _).mono ?_; rintro e w1 ⟨rfl, hb⟩; have T2 := Lib.hid (H2 _ _ hb); obtain ⟨hc, hf⟩ := bcell hb) | (go_at_call 73; refine (T2.out).mono ?_; rintro e w2 ⟨rfl, hb2⟩) | (go_at_call 57; refine (appendInt2_zero _ _ _ _ _ (((hB.alloc _).below hb (by simp; omega)).below hb2 (by have := hb.size; simp at this; omega)) (by omega) (by omega) (by omega)).mono ?_; rintro e w3 ⟨g', v', rfl, happ⟩))
  go_ret
  exact ⟨_, _, rfl, happ.pre ((((Below.refl _ _).alloc (Nat.le_refl _) _).trans (hb.mono (by simp))).trans (hb2.mono (by have := hb.size; simp at this; omega)))⟩

theorem weekNum_mon (h : TimeAt w C wl ex lc A nm off) (v : Value) (g : Nat) (out : List UInt8) (hB : Buf w g v out) (hl : out.length ≤ 700000) :
    Calls Tryz.prog 67 #[v, .agg #[.int .u64 wl, .int .i64 ex, .pointer lc], .int .u8 0, .bool false] w (AppPost w g (out ++ d2 ((ydayF (A / 86400) + 6 - ((A / 86400 + 3) % 7 + 6) % 7) / 7))) := by
  have hlt := hB.lt
  have h0 : 0 ≤ (A / 86400 + 3) % 7 ∧ (A / 86400 + 3) % 7 < 7 := by omega
  have hy := ydayF_bd (A / 86400)
  have hC := h.b
  have H := fun o => weekday_of (h.alloc o)
  have H2 := fun o w1 (hb : Below (w.alloc o).heap.size (w.alloc o) w1) => yearDay_of (w := w1) ((h.alloc o).below hb (by simp; omega))
  generalize (A / 86400 + 3) % 7 = wd at *
  generalize ydayF (A / 86400) = yd at *
  unfold d2
  rcases Decidable.em (wd = 0) with hz | hz
  · subst hz
    have e1 : (yd + 6 - (0 + 6) % 7) / 7 = (yd + 0) / 7 := by congr 1; omega
    rw [e1]
    clear e1
    go_enter Tryz.func67, Tryz.ntmps67
    go_wp2_with (first | (go_at_call 53; refine (H _).mono ?_; rintro e w1 ⟨rfl, hb⟩; have T2 := Lib.hid (H2 _ _ hb); obtain ⟨hc, hf⟩ := bcell hb) | (go_at_call 73; refine (T2.out).mono ?_; rintro e w2 ⟨rfl, hb2⟩) | (go_at_call 57; refine (appendInt2_zero _ _ _ _ _ (((hB.alloc _).below hb (by simp; omega)).below hb2 (by have := hb.size; simp at this; omega)) (by omega) (by omega) (by omega)).mono ?_; rintro e w3 ⟨g', v', rfl, happ⟩))
    go_ret
    simp only [Int.add_zero] at *
    exact ⟨_, _, rfl, happ.pre ((((Below.refl _ _).alloc (Nat.le_refl _) _).trans (hb.mono (by simp))).trans (hb2.mono (by have := hb.size; simp at this; omega)))⟩
  · have hz' : (wd == 0) = false := beq_eq_false_iff_ne.mpr hz
    have hz2 : (wd != 0) = true := bne_iff_ne.mpr hz
    have e1 : (yd + 6 - (wd + 6) % 7) / 7 = (yd + (7 - wd)) / 7 := by congr 1; omega
    rw [e1]
    clear e1
    go_enter Tryz.func67, Tryz.ntmps67
    go_wp2_with (first | (go_at_call 53; refine (H _).mono ?_; rintro e w1 ⟨rfl, hb⟩; have T2 := Lib.hid (H2 _ _ hb); obtain ⟨hc, hf⟩ := bcell hb) | (go_at_call 73; refine (T2.out).mono ?_; rintro e w2 ⟨rfl, hb2⟩) | (go_at_call 57; refine (appendInt2_zero _ _ _ _ _ (((hB.alloc _).below hb (by simp; omega)).below hb2 (by have := hb.size; simp at this; omega)) (by omega) (by omega) (by omega)).mono ?_; rintro e w3 ⟨g', v', rfl, happ⟩))
    go_ret
    exact ⟨_, _, rfl, happ.pre ((((Below.refl _ _).alloc (Nat.le_refl _) _).trans (hb.mono (by simp))).trans (hb2.mono (by have := hb.size; simp at this; omega)))⟩

theorem century_of (h : TimeAt w C wl ex lc A nm off) (hy0 : 0 ≤ yearF (A / 86400)) (hy1 : yearF (A / 86400) ≤ 9999) :
    Calls Tryz.prog 65 #[.agg #[.int .u64 wl, .int .i64 ex, .pointer lc]] w fun e w' => e = .returned (.int .i64 (yearF (A / 86400) / 100)) ∧ Below w.heap.size w w' := by
  have H := fun o => year_of (h.alloc o)
  generalize yearF (A / 86400) = y at *
  go_enter Tryz.func65, Tryz.ntmps65
  go_wp2_with (first | (go_at_call 95; refine (H _).mono ?_; rintro e w1 ⟨rfl, hb⟩))
  go_ret
  exact ⟨rfl, ((Below.refl _ _).alloc (Nat.le_refl _) _).trans (hb.mono (by simp))⟩
end
end Go.Proofs.YtkcgngpoegglnaaGreatDoor
end
