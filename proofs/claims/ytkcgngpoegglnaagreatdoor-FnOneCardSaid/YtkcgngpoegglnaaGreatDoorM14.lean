/- The first package: whether a text may be joined to a layout. · The texts of the directives: by the reference's numbers, and by the program's; the two agree. · The printing of a time by a layout: the first pieces of a round: what stands ahead of the next element. · The printing of a time by a layout: the round in which no element is left; the loop. -/
import Derived.LoopTactic
import Derived.LoopN
import Derived.Outline
import Derived.Test.YtkcgngpoegglnaaGreatDoorM05
import Derived.Test.YtkcgngpoegglnaaGreatDoorM11
import Derived.Test.YtkcgngpoegglnaaGreatDoorM09
import Derived.Test.YtkcgngpoegglnaaGreatDoorM13
/- The first package: whether a text may be joined to a layout. -/
section
namespace Go.Proofs.YtkcgngpoegglnaaGreatDoor
open Go Go.RowKit
set_option linter.unusedVariables false
set_option linter.unusedSimpArgs false

set_option maxRecDepth 100000 in
theorem contains_no (S B : ByteArray) (w : World) (hS : S.size ≤ 1000) (hB : B.size ≤ 1000) (hne : ∀ k, k + B.size ≤ S.size → ((S.extract k (k + B.size)).toList == B.toList) = false) :
    Calls Tryz.prog 236 #[.string S, .string B] w fun e w' => e = .returned (.bool false) ∧ w = w' := by
  have HN := Lib.hid hne
  clear hne
  go_enter Tryz.func236, Tryz.ntmps236
  go_wp2
  go_loop [5] (fun t5 => ∃ k : Nat, t5 = .int .i64 k ∧ k ≤ 1001) (fun t5 => 1002 - (intOf t5).toNat)
  case atStart => exact ⟨0, rfl, by omega⟩
  case round =>
    obtain ⟨k, rfl, hk⟩ := hrel
    by_cases hlt : k + B.size ≤ S.size
    · have he := HN.out k hlt
      go_wp2
      go_round
      case rel => exact ⟨k + 1, by go_num, by omega⟩
      case measure => simp [intOf]; omega
    · go_wp2
      go_ret
      exact ⟨rfl, rfl⟩

theorem no_word (l : List UInt8) (hl : ∀ c ∈ l, okCh c = true) (d : UInt8) (r : List UInt8) (hd : okCh d = false) (k : Nat) : (((bs l).extract k (k + (bs (d :: r)).size)).toList == (bs (d :: r)).toList) = false := by
  rw [beq_eq_false_iff_ne, bs_extract, bs_toList, bs_toList]
  intro e
  have hm : d ∈ (l.drop k).take (k + (bs (d :: r)).size - k) := by rw [e]; exact List.mem_cons_self
  have := hl d (List.mem_of_mem_drop (List.mem_of_mem_take hm))
  rw [hd] at this
  cases this

theorem no_letter (l : List UInt8) (c : UInt8) (hc : c ∉ l) (k : Nat) (hk : k + (bs [c]).size ≤ (bs l).size) : (((bs l).extract k (k + (bs [c]).size)).toList == (bs [c]).toList) = false := by
  rw [beq_eq_false_iff_ne, bs_extract, bs_toList, bs_toList]
  intro e
  have hm : c ∈ (l.drop k).take (k + (bs [c]).size - k) := by rw [e]; exact List.mem_cons_self
  exact hc (List.mem_of_mem_drop (List.mem_of_mem_take hm))

def digitsL : List UInt8 := [48, 49, 50, 51, 52, 53, 54, 55, 56, 57]

theorem okCh_noDigit (c : UInt8) (h : okCh c = true) : c ∉ digitsL := by
  simp only [okCh, plainB, Bool.or_eq_true, beq_iff_eq] at h
  rcases h with (((((rfl | rfl) | rfl) | rfl) | rfl) | rfl) | rfl <;> decide

set_option maxRecDepth 100000 in
theorem any_no (l : List UInt8) (w : World) (hl : ∀ c ∈ l, okCh c = true) (hz : l.length ≤ 1000) (D : ByteArray) (hD : D = bs digitsL) :
    Calls Tryz.prog 234 #[.string (bs l), .string D] w fun e w' => e = .returned (.bool false) ∧ w = w' := by
  have hsz : (bs l).size = l.length := bs_size l
  have H := fun (k : Nat) (hk : k < l.length) => contains_no D (bs [l[k]]) w (by rw [hD, bs_size]; decide) (by rw [bs_size]; simp) (fun j hj => by rw [hD] at hj ⊢; exact no_letter digitsL l[k] (okCh_noDigit _ (hl _ (List.getElem_mem hk))) j hj)
  have HE : ∀ (k : Nat) (hk : k < l.length), (bs l).extract k (k + 1) = bs [l[k]] := fun k hk => by
    rw [bs_extract]
    congr 1
    rw [List.drop_eq_getElem_cons hk, show k + 1 - k = 1 by omega]
    rfl
  have HH := Lib.hid H
  have HX := Lib.hid HE
  clear H HE hD hl
  go_enter Tryz.func234, Tryz.ntmps234
  go_wp2
  go_loop [5] (fun t5 => ∃ k : Nat, t5 = .int .i64 k ∧ k ≤ l.length) (fun t5 => 1002 - (intOf t5).toNat)
  case atStart => exact ⟨0, rfl, by omega⟩
  case round =>
    obtain ⟨k, rfl, hk⟩ := hrel
    by_cases hlt : k < l.length
    · have he := HX.out k hlt
      have hc := HH.out k hlt
      generalize l[k] = c at *
      go_wp2_with (first | (go_at_call 236; refine hc.mono ?_; rintro e w' ⟨rfl, rfl⟩))
      go_round
      case rel => exact ⟨k + 1, by go_num, by omega⟩
      case measure => simp [intOf]; omega
    · go_wp2
      go_ret
      exact ⟨rfl, rfl⟩

theorem excl_any (w : World) : Calls Tryz.prog 235 #[] w fun e w' => e = .returned (.slice (some ⟨w.heap.size, 0, none⟩) 7 7) ∧ w.alloc (.cells #[.string ⟨#[77, 111, 110]⟩, .string ⟨#[77, 111, 110, 100, 97, 121]⟩, .string ⟨#[74, 97, 110]⟩, .string ⟨#[74, 97, 110, 117, 97, 114, 121]⟩, .string ⟨#[77, 83, 84]⟩, .string ⟨#[80, 77]⟩, .string ⟨#[112, 109]⟩] 9) = w' := by
  go_enter Tryz.func235, Tryz.ntmps235
  go_wp2
  go_ret
  exact ⟨rfl, rfl⟩

set_option maxRecDepth 100000 in
theorem can_any (l : List UInt8) (w : World) (hl : ∀ c ∈ l, okCh c = true) (hz : l.length ≤ 1000) :
    Calls Tryz.prog 233 #[.string (bs l)] w fun e w' => e = .returned (.bool true) ∧ Below w.heap.size w w' := by
  have hA := any_no l w hl hz ⟨#[48, 49, 50, 51, 52, 53, 54, 55, 56, 57]⟩ rfl
  have hW := fun (d : UInt8) (r : List UInt8) (hd : okCh d = false) (hr : r.length ≤ 100) (w : World) => contains_no (bs l) (bs (d :: r)) w (by rw [bs_size]; exact hz) (by rw [bs_size]; simp; omega) (fun k _ => no_word l hl d r hd k)
  have c0 := fun w => hW 77 [111, 110] rfl (by decide) w
  have c1 := fun w => hW 77 [111, 110, 100, 97, 121] rfl (by decide) w
  have c2 := fun w => hW 74 [97, 110] rfl (by decide) w
  have c3 := fun w => hW 74 [97, 110, 117, 97, 114, 121] rfl (by decide) w
  have c4 := fun w => hW 77 [83, 84] rfl (by decide) w
  have c5 := fun w => hW 80 [77] rfl (by decide) w
  have c6 := fun w => hW 112 [109] rfl (by decide) w
  have hb : ∀ o, Below w.heap.size w (w.alloc o) := fun o => (Below.refl _ _).alloc (Nat.le_refl _) o
  generalize bs l = s at *
  clear hW
  go_enter Tryz.func233, Tryz.ntmps233
  go_wp2_with (first | (go_at_call 234; refine hA.mono ?_; rintro e w' ⟨rfl, rfl⟩) | (go_at_call 235; refine (excl_any _).mono ?_; rintro e w' ⟨rfl, rfl⟩))
  go_loop [9] (fun t9 => ∃ k : Nat, t9 = .int .i64 k ∧ k ≤ 7) (fun t9 => 8 - (intOf t9).toNat)
  case atStart => exact ⟨0, rfl, by omega⟩
  case round =>
    obtain ⟨k, rfl, hk⟩ := hrel
    have hk8 : k = 0 ∨ k = 1 ∨ k = 2 ∨ k = 3 ∨ k = 4 ∨ k = 5 ∨ k = 6 ∨ k = 7 := by omega
    rcases hk8 with rfl | rfl | rfl | rfl | rfl | rfl | rfl | rfl
    · go_wp2_with (first | (go_at_call 236; refine (c0 _).mono ?_; rintro e w' ⟨rfl, rfl⟩))
      go_round
      case rel => exact ⟨1, rfl, by omega⟩
      case measure => simp [intOf]
    · go_wp2_with (first | (go_at_call 236; refine (c1 _).mono ?_; rintro e w' ⟨rfl, rfl⟩))
      go_round
      case rel => exact ⟨2, rfl, by omega⟩
      case measure => simp [intOf]
    · go_wp2_with (first | (go_at_call 236; refine (c2 _).mono ?_; rintro e w' ⟨rfl, rfl⟩))
      go_round
      case rel => exact ⟨3, rfl, by omega⟩
      case measure => simp [intOf]
    · go_wp2_with (first | (go_at_call 236; refine (c3 _).mono ?_; rintro e w' ⟨rfl, rfl⟩))
      go_round
      case rel => exact ⟨4, rfl, by omega⟩
      case measure => simp [intOf]
    · go_wp2_with (first | (go_at_call 236; refine (c4 _).mono ?_; rintro e w' ⟨rfl, rfl⟩))
      go_round
      case rel => exact ⟨5, rfl, by omega⟩
      case measure => simp [intOf]
    · go_wp2_with (first | (go_at_call 236; refine (c5 _).mono ?_; rintro e w' ⟨rfl, rfl⟩))
      go_round
      case rel => exact ⟨6, rfl, by omega⟩
      case measure => simp [intOf]
    · go_wp2_with (first | (go_at_call 236; refine (c6 _).mono ?_; rintro e w' ⟨rfl, rfl⟩))
      go_round
      case rel => exact ⟨7, rfl, by omega⟩
      case measure => simp [intOf]
    · go_wp2
      go_ret
      exact ⟨rfl, hb _⟩
end Go.Proofs.YtkcgngpoegglnaaGreatDoor
end
/- The texts of the directives: by the reference's numbers, and by the program's; the two agree. -/
section
namespace Go.Proofs.YtkcgngpoegglnaaGreatDoor
open Go
set_option linter.unusedVariables false

/-- a time of the reference. -/
structure STime where
  y : Int
  m : Int
  d : Int
  hh : Int
  mm : Int
  ss : Int
  ns : Int
  off : Int
  nm : ByteArray

/-- a zone's letter. -/
def zoneCh (c : UInt8) : Bool := decide (65 ≤ (c.toNat : Int)) && decide ((c.toNat : Int) ≤ 90)

/-- a time that is compared. -/
structure RightT (T : STime) : Prop where
  y0 : 1 ≤ T.y
  y1 : T.y ≤ 9999
  m0 : 1 ≤ T.m
  m1 : T.m ≤ 12
  d0 : 1 ≤ T.d
  d1 : T.d ≤ lenM T.y T.m
  h0 : 0 ≤ T.hh
  h1 : T.hh < 24
  n0 : 0 ≤ T.mm
  n1 : T.mm < 60
  s0 : 0 ≤ T.ss
  s1 : T.ss < 60
  k0 : 0 ≤ T.ns
  k1 : T.ns < 1000000000
  o0 : -50400 ≤ T.off
  o1 : T.off ≤ 50400
  o2 : T.off % 60 = 0
  z : ∀ c ∈ T.nm.data.toList, zoneCh c = true
  z0 : 3 ≤ T.nm.size
  z1 : T.nm.size ≤ 4

def ydT (T : STime) : Int := cumM T.y T.m + T.d
def wdT (T : STime) : Int := wdF T.y (ydT T)
def iyT (T : STime) : Int := isoY T.y (ydT T)
def iwT (T : STime) : Int := isoW T.y (ydT T)

/-- two places, the first one a blank where the number is small. -/
def b2 (n : Int) : List UInt8 := if n < 10 then [32, dg n] else d2 n

/-- the text of a directive, by the reference's numbers. -/
def oneF (T : STime) (c : UInt8) : Option (List UInt8) :=
  if c = 97 then some ((dayName (wdT T)).take 3)
  else if c = 65 then some (dayName (wdT T))
  else if c = 98 ∨ c = 104 then some ((monthName T.m).take 3)
  else if c = 66 then some (monthName T.m)
  else if c = 67 then some (d2 (T.y / 100))
  else if c = 100 then some (d2 T.d)
  else if c = 68 then some (d2 T.m ++ [47] ++ d2 T.d ++ [47] ++ d2 (T.y % 100))
  else if c = 101 then some (b2 T.d)
  else if c = 70 then some (d4 T.y ++ [45] ++ d2 T.m ++ [45] ++ d2 T.d)
  else if c = 103 then some (d2 (iyT T % 100))
  else if c = 71 then some (d4 (iyT T))
  else if c = 72 then some (d2 T.hh)
  else if c = 73 then some (d2 ((T.hh + 11) % 12 + 1))
  else if c = 106 then some (d3 (ydT T))
  else if c = 109 then some (d2 T.m)
  else if c = 77 then some (d2 T.mm)
  else if c = 110 then some [10]
  else if c = 112 then some (if T.hh < 12 then [65, 77] else [80, 77])
  else if c = 82 then some (d2 T.hh ++ [58] ++ d2 T.mm)
  else if c = 83 then some (d2 T.ss)
  else if c = 84 then some (d2 T.hh ++ [58] ++ d2 T.mm ++ [58] ++ d2 T.ss)
  else if c = 116 then some [9]
  else if c = 117 then some [dg ((wdT T + 6) % 7 + 1)]
  else if c = 85 then some (d2 ((ydT T + 6 - wdT T) / 7))
  else if c = 86 then some (d2 (iwT T))
  else if c = 119 then some [dg (wdT T)]
  else if c = 87 then some (d2 ((ydT T + 6 - (wdT T + 6) % 7) / 7))
  else if c = 121 then some (d2 (T.y % 100))
  else if c = 89 then some (d4 T.y)
  else if c = 122 then some (offText T.off)
  else if c = 90 then some T.nm.data.toList
  else if c = 37 then some [37]
  else none

/-- the text of a format: directives behind percents, other letters ats they are. -/
def textF (T : STime) : List UInt8 → Option (List UInt8)
  | [] => some []
  | [b] => if b = 37 then none else if 32 ≤ b.toNat ∧ b.toNat ≤ 126 then some [b] else none
  | b :: c :: r =>
    if b = 37 then (oneF T c).bind fun x => (textF T r).map (x ++ ·)
    else if 32 ≤ b.toNat ∧ b.toNat ≤ 126 then (textF T (c :: r)).map (b :: ·) else none

/-- the row of atoms that a directive stands for. -/
def dirAtoms (c : UInt8) : Option (List Atom) :=
  if c = 97 then some [.el .mon]
  else if c = 65 then some [.el .monday]
  else if c = 98 ∨ c = 104 then some [.el .jan]
  else if c = 66 then some [.el .january]
  else if c = 100 then some [.el .z2]
  else if c = 68 then some [.el .z1, .ch 47, .el .z2, .ch 47, .el .z6]
  else if c = 101 then some [.el .u2]
  else if c = 70 then some [.el .y4, .ch 45, .el .z1, .ch 45, .el .z2]
  else if c = 72 then some [.el .h15]
  else if c = 73 then some [.el .z3]
  else if c = 109 then some [.el .z1]
  else if c = 77 then some [.el .z4]
  else if c = 110 then some [.ch 10]
  else if c = 112 then some [.el .pm]
  else if c = 82 then some [.el .h15, .ch 58, .el .z4]
  else if c = 83 then some [.el .z5]
  else if c = 84 then some [.el .h15, .ch 58, .el .z4, .ch 58, .el .z5]
  else if c = 116 then some [.ch 9]
  else if c = 121 then some [.el .z6]
  else if c = 89 then some [.el .y4]
  else if c = 122 then some [.el .tz]
  else if c = 90 then some [.el .mst]
  else if c = 37 then some [.ch 37]
  else none

/-- the absolute second of a time. -/
def absT (T : STime) : Int := absF T.y T.m T.d * 86400 + (T.hh * 3600 + T.mm * 60 + T.ss)

structure Nums (T : STime) (A : Int) : Prop where
  y : yearF (A / 86400) = T.y
  m : monthF (A / 86400) = T.m
  d : dayF (A / 86400) = T.d
  yd : ydayF (A / 86400) = ydT T
  wd : (A / 86400 + 3) % 7 = wdT T
  iy : yearF (thuF (A / 86400)) = iyT T
  iw : (ydayF (thuF (A / 86400)) - 1) / 7 + 1 = iwT T
  hh : A % 86400 / 3600 = T.hh
  mm : A % 3600 / 60 = T.mm
  ss : A % 60 = T.ss

theorem RightT.dd {T : STime} (h : RightT T) : T.d ≤ 31 := by have := lenM_bd T.y T.m; have := h.d1; omega

theorem nums_of {T : STime} (h : RightT T) : Nums T (absT T) := by
  have hd : absT T / 86400 = absF T.y T.m T.d := by
    have := h.h0; have := h.h1; have := h.n0; have := h.n1; have := h.s0; have := h.s1
    unfold absT; omega
  obtain ⟨a1, a2, a3, a4⟩ := of_date T.y T.m T.d h.m0 h.m1 h.d0 h.d1
  obtain ⟨b1, b2, b3⟩ := abs_day T.y T.m T.d h.m0 h.m1 h.d0 h.d1
  obtain ⟨c1, c2⟩ := iso_of_day T.y _ _ b2 b3 b1
  refine ⟨by rw [hd]; exact a1, by rw [hd]; exact a2, by rw [hd]; exact a3, by rw [hd]; exact a4, by rw [hd]; exact wd_of T.y _ _ b1, by rw [hd]; exact c1, by rw [hd]; exact c2, ?_, ?_, ?_⟩
  all_goals
    have := h.h0; have := h.h1; have := h.n0; have := h.n1; have := h.s0; have := h.s1
    unfold absT; omega

theorem h12_eq (h : Int) (h0 : 0 ≤ h) (h1 : h < 24) : h12 h = (h + 11) % 12 + 1 := by unfold h12; split <;> omega

set_option linter.unusedSimpArgs false
set_option maxHeartbeats 4000000 in
/-- a directive that stands for a row of atoms has their texts. -/
theorem one_atoms {T : STime} (h : RightT T) (c : UInt8) (ats : List Atom) (hc : dirAtoms c = some ats) : oneF T c = some (layText (absT T) T.nm T.off ats) := by
  have N := nums_of h
  have hh12 := h12_eq T.hh h.h0 h.h1
  by_cases h97 : c = 97
  · subst h97
    simp [dirAtoms] at hc
    subst hc
    simp [oneF, layText, Atom.text, El.text, N.y, N.m, N.d, N.yd, N.wd, N.hh, N.mm, N.ss, b2, hh12]
  by_cases h65 : c = 65
  · subst h65
    simp [dirAtoms] at hc
    subst hc
    simp [oneF, layText, Atom.text, El.text, N.y, N.m, N.d, N.yd, N.wd, N.hh, N.mm, N.ss, b2, hh12]
  by_cases h98 : c = 98
  · subst h98
    simp [dirAtoms] at hc
    subst hc
    simp [oneF, layText, Atom.text, El.text, N.y, N.m, N.d, N.yd, N.wd, N.hh, N.mm, N.ss, b2, hh12]
  by_cases h104 : c = 104
  · subst h104
    simp [dirAtoms] at hc
    subst hc
    simp [oneF, layText, Atom.text, El.text, N.y, N.m, N.d, N.yd, N.wd, N.hh, N.mm, N.ss, b2, hh12]
  by_cases h66 : c = 66
  · subst h66
    simp [dirAtoms] at hc
    subst hc
    simp [oneF, layText, Atom.text, El.text, N.y, N.m, N.d, N.yd, N.wd, N.hh, N.mm, N.ss, b2, hh12]
  by_cases h100 : c = 100
  · subst h100
    simp [dirAtoms] at hc
    subst hc
    simp [oneF, layText, Atom.text, El.text, N.y, N.m, N.d, N.yd, N.wd, N.hh, N.mm, N.ss, b2, hh12]
  by_cases h68 : c = 68
  · subst h68
    simp [dirAtoms] at hc
    subst hc
    simp [oneF, layText, Atom.text, El.text, N.y, N.m, N.d, N.yd, N.wd, N.hh, N.mm, N.ss, b2, hh12]
  by_cases h101 : c = 101
  · subst h101
    simp [dirAtoms] at hc
    subst hc
    simp [oneF, layText, Atom.text, El.text, N.y, N.m, N.d, N.yd, N.wd, N.hh, N.mm, N.ss, b2, hh12]
  by_cases h70 : c = 70
  · subst h70
    simp [dirAtoms] at hc
    subst hc
    simp [oneF, layText, Atom.text, El.text, N.y, N.m, N.d, N.yd, N.wd, N.hh, N.mm, N.ss, b2, hh12]
  by_cases h72 : c = 72
  · subst h72
    simp [dirAtoms] at hc
    subst hc
    simp [oneF, layText, Atom.text, El.text, N.y, N.m, N.d, N.yd, N.wd, N.hh, N.mm, N.ss, b2, hh12]
  by_cases h73 : c = 73
  · subst h73
    simp [dirAtoms] at hc
    subst hc
    simp [oneF, layText, Atom.text, El.text, N.y, N.m, N.d, N.yd, N.wd, N.hh, N.mm, N.ss, b2, hh12]
  by_cases h109 : c = 109
  · subst h109
    simp [dirAtoms] at hc
    subst hc
    simp [oneF, layText, Atom.text, El.text, N.y, N.m, N.d, N.yd, N.wd, N.hh, N.mm, N.ss, b2, hh12]
  by_cases h77 : c = 77
  · subst h77
    simp [dirAtoms] at hc
    subst hc
    simp [oneF, layText, Atom.text, El.text, N.y, N.m, N.d, N.yd, N.wd, N.hh, N.mm, N.ss, b2, hh12]
  by_cases h110 : c = 110
  · subst h110
    simp [dirAtoms] at hc
    subst hc
    simp [oneF, layText, Atom.text, El.text, N.y, N.m, N.d, N.yd, N.wd, N.hh, N.mm, N.ss, b2, hh12]
  by_cases h112 : c = 112
  · subst h112
    simp [dirAtoms] at hc
    subst hc
    by_cases hp : T.hh < 12
    · have hq : ¬ 12 ≤ T.hh := by omega
      simp [oneF, layText, Atom.text, El.text, N.hh, hp, hq]
    · have hq : 12 ≤ T.hh := by omega
      simp [oneF, layText, Atom.text, El.text, N.hh, hp, hq]
  by_cases h82 : c = 82
  · subst h82
    simp [dirAtoms] at hc
    subst hc
    simp [oneF, layText, Atom.text, El.text, N.y, N.m, N.d, N.yd, N.wd, N.hh, N.mm, N.ss, b2, hh12]
  by_cases h83 : c = 83
  · subst h83
    simp [dirAtoms] at hc
    subst hc
    simp [oneF, layText, Atom.text, El.text, N.y, N.m, N.d, N.yd, N.wd, N.hh, N.mm, N.ss, b2, hh12]
  by_cases h84 : c = 84
  · subst h84
    simp [dirAtoms] at hc
    subst hc
    simp [oneF, layText, Atom.text, El.text, N.y, N.m, N.d, N.yd, N.wd, N.hh, N.mm, N.ss, b2, hh12]
  by_cases h116 : c = 116
  · subst h116
    simp [dirAtoms] at hc
    subst hc
    simp [oneF, layText, Atom.text, El.text, N.y, N.m, N.d, N.yd, N.wd, N.hh, N.mm, N.ss, b2, hh12]
  by_cases h121 : c = 121
  · subst h121
    simp [dirAtoms] at hc
    subst hc
    simp [oneF, layText, Atom.text, El.text, N.y, N.m, N.d, N.yd, N.wd, N.hh, N.mm, N.ss, b2, hh12]
  by_cases h89 : c = 89
  · subst h89
    simp [dirAtoms] at hc
    subst hc
    simp [oneF, layText, Atom.text, El.text, N.y, N.m, N.d, N.yd, N.wd, N.hh, N.mm, N.ss, b2, hh12]
  by_cases h122 : c = 122
  · subst h122
    simp [dirAtoms] at hc
    subst hc
    simp [oneF, layText, Atom.text, El.text, N.y, N.m, N.d, N.yd, N.wd, N.hh, N.mm, N.ss, b2, hh12]
  by_cases h90 : c = 90
  · subst h90
    simp [dirAtoms] at hc
    subst hc
    simp [oneF, layText, Atom.text, El.text, N.y, N.m, N.d, N.yd, N.wd, N.hh, N.mm, N.ss, b2, hh12]
  by_cases h37 : c = 37
  · subst h37
    simp [dirAtoms] at hc
    subst hc
    simp [oneF, layText, Atom.text, El.text, N.y, N.m, N.d, N.yd, N.wd, N.hh, N.mm, N.ss, b2, hh12]
  simp [h97, h65, h98, h104, h66, h100, h68, h101, h70, h72, h73, h109, h77, h110, h112, h82, h83, h84, h116, h121, h89, h122, h90, h37, dirAtoms] at hc
end Go.Proofs.YtkcgngpoegglnaaGreatDoor
end
/- The printing of a time by a layout: the first pieces of a round: what stands ahead of the next element. -/
section
namespace Go.Proofs.YtkcgngpoegglnaaGreatDoor
open Go Go.RowKit
set_option linter.unusedVariables false
set_option linter.unusedSimpArgs false

theorem below_drewN (w : World) (n : Nat) : Below w.heap.size w (w.drewN n) := ⟨rfl, rfl, rfl, Nat.le_refl _, fun _ _ => rfl⟩
theorem Buf.drewN {w : World} {g : Nat} {v : Value} {bs : List UInt8} (h : Buf w g v bs) (n : Nat) : Buf (w.drewN n) g v bs := h

set_option maxRecDepth 1000000 in
set_option maxHeartbeats 4000000 in
theorem piece_chunk (t : Array Value) (v : Value) (l : List UInt8) (nm : ByteArray) (off A : Int) (dy yy ck : Bool) (n : Nat) (el : El) (r : List UInt8) (g : Nat) (out : List UInt8) (cs : List Code) (w : World) (Q : Exit → Act → World → Prop)
    (hl : l.length ≤ 1000) (hn : n ≤ l.length) (hp : OkPre n l) (hd : l.drop n = el.bytes ++ r) (hf : el.Follow r) (hx : Std0x w) (hB : Buf w g v out) (hlen : out.length ≤ 500000) (ht : FmtT t v l nm off A dy yy ck)
    (hK : ∀ (t' : Array Value) (g' : Nat) (v' : Value) (w' : World), Appended w g (out ++ l.take n) g' v' w' → FmtT t' v' r nm off A dy yy ck → (∀ h : 19 < t'.size, t'[19]'h = .int .i64 el.std) → wpL Tryz.prog cs Q ⟨t', []⟩ w') :
    wpL Tryz.prog (fp 0 :: fp 1 :: fp 2 :: fp 3 :: fp 4 :: fp 5 :: cs) Q ⟨t, []⟩ w := by
  obtain ⟨z, t1, t2, t7, t8, t9, t10, t11, t12, t13, t14, t15, t16, t17⟩ := ht
  have hch := chunk_any l n el r w hl hn hp hd hf hx
  have hse : (el.std == 0) = false := by cases el <;> rfl
  have hpl : (l.take n).length ≤ 1000 := by simp; omega
  clear hd hf hp
  generalize l.take n = p at *
  have hbt := bs_toList p
  refine wpL_cons ?_
  conv => arg 2; whnf
  repeat (first | ((with_reducible refine wp_cond_true ?_ ?_); (focus (go_simp; done))) | ((with_reducible refine wp_cond_false ?_ ?_); (focus (go_simp; done))) | (go_at_call 115; refine hch.mono ?_; rintro e w' ⟨rfl, m, rfl⟩; dsimp only) | go_guarded | go_step)
  cases p with
  | nil =>
    refine wpL_cons ?_
    conv => arg 2; whnf
    repeat (first | ((with_reducible refine wp_cond_true ?_ ?_); (focus (go_simp; done))) | ((with_reducible refine wp_cond_false ?_ ?_); (focus (go_simp; done))) | go_guarded | go_step)
    refine wpL_cons ?_
    conv => arg 2; whnf
    repeat (first | ((with_reducible refine wp_cond_true ?_ ?_); (focus (go_simp; done))) | ((with_reducible refine wp_cond_false ?_ ?_); (focus (go_simp; done))) | (at_builtin; refine wpList_append_buf rfl _ _ 9 rfl (by go_simp) (by go_simp) (hB.drewN m) (bytesIn_string _ (bs (c :: p))) (by rw [bs_data]; omega) ?_; intro g' v' w' happ; rw [bs_data] at happ) | go_guarded | go_step)
    refine wpL_cons ?_
    conv => arg 2; whnf
    repeat (first | ((with_reducible refine wp_cond_true ?_ ?_); (focus (go_simp; done))) | ((with_reducible refine wp_cond_false ?_ ?_); (focus (go_simp; done))) | go_guarded | go_step)
    refine wpL_cons ?_
    conv => arg 2; whnf
    repeat (first | ((with_reducible refine wp_cond_true ?_ ?_); (focus (go_simp; done))) | ((with_reducible refine wp_cond_false ?_ ?_); (focus (go_simp; done))) | go_guarded | go_step)
    refine wpL_cons ?_
    conv => arg 2; whnf
    repeat (first | ((with_reducible refine wp_cond_true ?_ ?_); (focus (go_simp; done))) | ((with_reducible refine wp_cond_false ?_ ?_); (focus (go_simp; done))) | go_guarded | go_step)
    
    refine hK _ g v _ (by rw [List.append_nil]; exact (Appended.refl hB).post (below_drewN w m)) ⟨?_, ?_, ?_, ?_, ?_, ?_, ?_, ?_, ?_, ?_, ?_, ?_, ?_, ?_⟩ ?_
    all_goals first | (simp [z]; done) | (intro h; simp [z, t1, t2, t7, t8, t9, t10, t11, t14, t15]; done) | (intro hc h; simp [z, t12 hc]; done) | (intro hc h; simp [z, t16]; done) | (intro hc h; simp [z, t13 hc]; done) | (intro hc h; simp [z, t16 hc]; done) | (intro hc h; simp [z, t17 hc]; done)
  | cons c p =>
    refine wpL_cons ?_
    conv => arg 2; whnf
    repeat (first | ((with_reducible refine wp_cond_true ?_ ?_); (focus (go_simp; done))) | ((with_reducible refine wp_cond_false ?_ ?_); (focus (go_simp; done))) | go_guarded | go_step)
    refine wpL_cons ?_
    conv => arg 2; whnf
    repeat (first | ((with_reducible refine wp_cond_true ?_ ?_); (focus (go_simp; done))) | ((with_reducible refine wp_cond_false ?_ ?_); (focus (go_simp; done))) | (at_builtin; refine wpList_append_buf rfl _ _ 9 rfl (by go_simp) (by go_simp) (hB.drewN m) (bytesIn_string _ (bs (c :: p))) (by rw [bs_data]; omega) ?_; intro g' v' w' happ; rw [bs_data] at happ) | go_guarded | go_step)
    refine wpL_cons ?_
    conv => arg 2; whnf
    repeat (first | ((with_reducible refine wp_cond_true ?_ ?_); (focus (go_simp; done))) | ((with_reducible refine wp_cond_false ?_ ?_); (focus (go_simp; done))) | go_guarded | go_step)
    refine wpL_cons ?_
    conv => arg 2; whnf
    repeat (first | ((with_reducible refine wp_cond_true ?_ ?_); (focus (go_simp; done))) | ((with_reducible refine wp_cond_false ?_ ?_); (focus (go_simp; done))) | go_guarded | go_step)
    refine wpL_cons ?_
    conv => arg 2; whnf
    repeat (first | ((with_reducible refine wp_cond_true ?_ ?_); (focus (go_simp; done))) | ((with_reducible refine wp_cond_false ?_ ?_); (focus (go_simp; done))) | go_guarded | go_step)
    
    refine hK _ g' v' _ (happ.pre (below_drewN w m)) ⟨?_, ?_, ?_, ?_, ?_, ?_, ?_, ?_, ?_, ?_, ?_, ?_, ?_, ?_⟩ ?_
    all_goals first | (simp [z]; done) | (intro h; simp [z, t1, t2, t7, t8, t9, t10, t11, t14, t15]; done) | (intro hc h; simp [z, t12 hc]; done) | (intro hc h; simp [z, t16]; done) | (intro hc h; simp [z, t13 hc]; done) | (intro hc h; simp [z, t16 hc]; done) | (intro hc h; simp [z, t17 hc]; done)
end Go.Proofs.YtkcgngpoegglnaaGreatDoor
end
/- The printing of a time by a layout: the round in which no element is left; the loop. -/
section
namespace Go.Proofs.YtkcgngpoegglnaaGreatDoor
open Go Go.RowKit
set_option linter.unusedVariables false
set_option linter.unusedSimpArgs false

set_option maxRecDepth 1000000 in
set_option maxHeartbeats 4000000 in
theorem piece_none (t : Array Value) (v : Value) (c : UInt8) (p : List UInt8) (nm : ByteArray) (off A : Int) (dy yy ck : Bool) (g : Nat) (out : List UInt8) (cs : List Code) (w : World) (Q : Exit → Act → World → Prop)
    (hl : (c :: p).length ≤ 1000) (hp : OkPre (c :: p).length (c :: p)) (hB : Buf w g v out) (hlen : out.length ≤ 500000) (ht : FmtT t v (c :: p) nm off A dy yy ck)
    (hK : ∀ (t' : Array Value) (g' : Nat) (v' : Value) (w' : World), Appended w g (out ++ (c :: p)) g' v' w' → t'.size = 393 → (∀ h : 1 < t'.size, t'[1]'h = v') → Q (.exit 0) ⟨t', []⟩ w') :
    wpL Tryz.prog (fp 0 :: fp 1 :: fp 2 :: fp 3 :: fp 4 :: cs) Q ⟨t, []⟩ w := by
  obtain ⟨z, t1, t2, t7, t8, t9, t10, t11, t12, t13, t14, t15, t16, t17⟩ := ht
  have hch := chunk_none (c :: p) w hl hp
  clear hp
  have hbt := bs_toList (c :: p)
  refine wpL_cons ?_
  conv => arg 2; whnf
  repeat (first | ((with_reducible refine wp_cond_true ?_ ?_); (focus (go_simp; done))) | ((with_reducible refine wp_cond_false ?_ ?_); (focus (go_simp; done))) | (go_at_call 115; refine hch.mono ?_; rintro e w' ⟨rfl, m, rfl⟩; dsimp only) | go_guarded | go_step)
  refine wpL_cons ?_
  conv => arg 2; whnf
  repeat (first | ((with_reducible refine wp_cond_true ?_ ?_); (focus (go_simp; done))) | ((with_reducible refine wp_cond_false ?_ ?_); (focus (go_simp; done))) | go_guarded | go_step)
  refine wpL_cons ?_
  conv => arg 2; whnf
  repeat (first | ((with_reducible refine wp_cond_true ?_ ?_); (focus (go_simp; done))) | ((with_reducible refine wp_cond_false ?_ ?_); (focus (go_simp; done))) | (at_builtin; refine wpList_append_buf rfl _ _ 9 rfl (by go_simp) (by go_simp) (hB.drewN m) (bytesIn_string _ (bs (c :: p))) (by rw [bs_data]; omega) ?_; intro g' v' w' happ; rw [bs_data] at happ) | go_guarded | go_step)
  refine wpL_cons ?_
  conv => arg 2; whnf
  repeat (first | ((with_reducible refine wp_cond_true ?_ ?_); (focus (go_simp; done))) | ((with_reducible refine wp_cond_false ?_ ?_); (focus (go_simp; done))) | go_guarded | go_step)
  refine wpL_cons ?_
  conv => arg 2; whnf
  refine wp_cond_true ?_ ?_
  · go_simp
  refine wp_exit ?_
  exact hK _ g' v' _ (happ.pre (below_drewN w m)) (by simp [z]) (by intro h; simp [z])

end Go.Proofs.YtkcgngpoegglnaaGreatDoor
end
