/- The reference: the text of a directive, at every letter (printed by gen_sph.py). · The reference: the text of a format. -/
import Derived.Test.YtkcgngpoegglnaaGreatDoorM44
import Derived.Test.YtkcgngpoegglnaaGreatDoorM22
import Derived.LoopTactic
/- The reference: the text of a directive, at every letter (printed by gen_sph.py). -/
section
namespace Go.Proofs.YtkcgngpoegglnaaGreatDoor
open Go Go.RowKit
set_option linter.unusedVariables false
set_option linter.unusedSimpArgs false

/-- the end of One's call: the text, or nothing. -/
def OneRes (w : World) (o : Option (List UInt8)) (e : Ending) (w' : World) : Prop :=
  Below w.heap.size w w' ∧ e = .returned (match o with | some x => .tuple #[.string (bs x), .bool true] | none => .tuple #[.string ⟨#[]⟩, .bool false])

theorem OnePost.res {w : World} {x : List UInt8} {e : Ending} {w' : World} (h : OnePost w x e w') : OneRes w (some x) e w' := ⟨h.2, h.1⟩

set_option maxRecDepth 100000 in
set_option maxHeartbeats 8000000 in
theorem one_none (T : STime) (hR : RightT T) (w : World) (n : Int) (n0 : 0 ≤ n) (n1 : n < 256)
    (h97 : (n == 97) = false) (h65 : (n == 65) = false) (h98 : (n == 98) = false) (h104 : (n == 104) = false) (h66 : (n == 66) = false) (h67 : (n == 67) = false) (h100 : (n == 100) = false) (h68 : (n == 68) = false) (h101 : (n == 101) = false) (h70 : (n == 70) = false) (h103 : (n == 103) = false) (h71 : (n == 71) = false) (h72 : (n == 72) = false) (h73 : (n == 73) = false) (h106 : (n == 106) = false) (h109 : (n == 109) = false) (h77 : (n == 77) = false) (h110 : (n == 110) = false) (h112 : (n == 112) = false) (h82 : (n == 82) = false) (h83 : (n == 83) = false) (h84 : (n == 84) = false) (h116 : (n == 116) = false) (h117 : (n == 117) = false) (h85 : (n == 85) = false) (h86 : (n == 86) = false) (h119 : (n == 119) = false) (h87 : (n == 87) = false) (h121 : (n == 121) = false) (h89 : (n == 89) = false) (h122 : (n == 122) = false) (h90 : (n == 90) = false) (h37 : (n == 37) = false) :
    Calls Tryz.prog 13 #[.int .u8 n, .agg (timeCells T)] w (OneRes w none) := by
  have HI := fun w => iso_sp T hR w
  have hbx : Below w.heap.size w (w.alloc (.cells (timeCells T) 25)) := (Below.refl _ _).alloc (Nat.le_refl _) _
  have BX := Lib.hid hbx
  obtain ⟨g0, g1, g2, g3, g4, g5, g6, g7, g8⟩ := (TimeBox.new w T).cells
  clear hbx
  unfold timeCells at *
  go_enter Tryz.func13, Tryz.ntmps13
  go_wp2_with (go_at_call 21; refine (HI _).mono ?_; rintro e w1 ⟨rfl, hb1⟩; have BC := Lib.hid (BX.out.trans (hb1.mono BX.out.size)); clear hb1)
  go_ret2
  exact ⟨BC.out, rfl⟩

set_option maxHeartbeats 4000000 in
theorem one_all (T : STime) (hR : RightT T) (w : World) (c : UInt8) : Calls Tryz.prog 13 #[.int .u8 c.toNat, .agg (timeCells T)] w (OneRes w (oneF T c)) := by
  by_cases h97 : c = 97
  · subst h97
    exact (one_97 T hR w).mono fun _ _ h => h.res
  by_cases h65 : c = 65
  · subst h65
    exact (one_65 T hR w).mono fun _ _ h => h.res
  by_cases h98 : c = 98
  · subst h98
    exact (one_98 T hR w).mono fun _ _ h => h.res
  by_cases h104 : c = 104
  · subst h104
    exact (one_104 T hR w).mono fun _ _ h => h.res
  by_cases h66 : c = 66
  · subst h66
    exact (one_66 T hR w).mono fun _ _ h => h.res
  by_cases h67 : c = 67
  · subst h67
    exact (one_67 T hR w).mono fun _ _ h => h.res
  by_cases h100 : c = 100
  · subst h100
    exact (one_100 T hR w).mono fun _ _ h => h.res
  by_cases h68 : c = 68
  · subst h68
    exact (one_68 T hR w).mono fun _ _ h => h.res
  by_cases h101 : c = 101
  · subst h101
    exact (one_101 T hR w).mono fun _ _ h => h.res
  by_cases h70 : c = 70
  · subst h70
    exact (one_70 T hR w).mono fun _ _ h => h.res
  by_cases h103 : c = 103
  · subst h103
    exact (one_103 T hR w).mono fun _ _ h => h.res
  by_cases h71 : c = 71
  · subst h71
    exact (one_71 T hR w).mono fun _ _ h => h.res
  by_cases h72 : c = 72
  · subst h72
    exact (one_72 T hR w).mono fun _ _ h => h.res
  by_cases h73 : c = 73
  · subst h73
    exact (one_73 T hR w).mono fun _ _ h => h.res
  by_cases h106 : c = 106
  · subst h106
    exact (one_106 T hR w).mono fun _ _ h => h.res
  by_cases h109 : c = 109
  · subst h109
    exact (one_109 T hR w).mono fun _ _ h => h.res
  by_cases h77 : c = 77
  · subst h77
    exact (one_77 T hR w).mono fun _ _ h => h.res
  by_cases h110 : c = 110
  · subst h110
    exact (one_110 T hR w).mono fun _ _ h => h.res
  by_cases h112 : c = 112
  · subst h112
    exact (one_112 T hR w).mono fun _ _ h => h.res
  by_cases h82 : c = 82
  · subst h82
    exact (one_82 T hR w).mono fun _ _ h => h.res
  by_cases h83 : c = 83
  · subst h83
    exact (one_83 T hR w).mono fun _ _ h => h.res
  by_cases h84 : c = 84
  · subst h84
    exact (one_84 T hR w).mono fun _ _ h => h.res
  by_cases h116 : c = 116
  · subst h116
    exact (one_116 T hR w).mono fun _ _ h => h.res
  by_cases h117 : c = 117
  · subst h117
    exact (one_117 T hR w).mono fun _ _ h => h.res
  by_cases h85 : c = 85
  · subst h85
    exact (one_85 T hR w).mono fun _ _ h => h.res
  by_cases h86 : c = 86
  · subst h86
    exact (one_86 T hR w).mono fun _ _ h => h.res
  by_cases h119 : c = 119
  · subst h119
    exact (one_119 T hR w).mono fun _ _ h => h.res
  by_cases h87 : c = 87
  · subst h87
    exact (one_87 T hR w).mono fun _ _ h => h.res
  by_cases h121 : c = 121
  · subst h121
    exact (one_121 T hR w).mono fun _ _ h => h.res
  by_cases h89 : c = 89
  · subst h89
    exact (one_89 T hR w).mono fun _ _ h => h.res
  by_cases h122 : c = 122
  · subst h122
    exact (one_122 T hR w).mono fun _ _ h => h.res
  by_cases h90 : c = 90
  · subst h90
    exact (one_90 T hR w).mono fun _ _ h => h.res
  by_cases h37 : c = 37
  · subst h37
    exact (one_37 T hR w).mono fun _ _ h => h.res
  have hn : oneF T c = none := by simp [oneF, *]
  rw [hn]
  exact one_none T hR w c.toNat (by omega) (by have := UInt8.toNat_lt c; omega) (u8_beq (d := 97) (by decide) h97) (u8_beq (d := 65) (by decide) h65) (u8_beq (d := 98) (by decide) h98) (u8_beq (d := 104) (by decide) h104) (u8_beq (d := 66) (by decide) h66) (u8_beq (d := 67) (by decide) h67) (u8_beq (d := 100) (by decide) h100) (u8_beq (d := 68) (by decide) h68) (u8_beq (d := 101) (by decide) h101) (u8_beq (d := 70) (by decide) h70) (u8_beq (d := 103) (by decide) h103) (u8_beq (d := 71) (by decide) h71) (u8_beq (d := 72) (by decide) h72) (u8_beq (d := 73) (by decide) h73) (u8_beq (d := 106) (by decide) h106) (u8_beq (d := 109) (by decide) h109) (u8_beq (d := 77) (by decide) h77) (u8_beq (d := 110) (by decide) h110) (u8_beq (d := 112) (by decide) h112) (u8_beq (d := 82) (by decide) h82) (u8_beq (d := 83) (by decide) h83) (u8_beq (d := 84) (by decide) h84) (u8_beq (d := 116) (by decide) h116) (u8_beq (d := 117) (by decide) h117) (u8_beq (d := 85) (by decide) h85) (u8_beq (d := 86) (by decide) h86) (u8_beq (d := 119) (by decide) h119) (u8_beq (d := 87) (by decide) h87) (u8_beq (d := 121) (by decide) h121) (u8_beq (d := 89) (by decide) h89) (u8_beq (d := 122) (by decide) h122) (u8_beq (d := 90) (by decide) h90) (u8_beq (d := 37) (by decide) h37)
end Go.Proofs.YtkcgngpoegglnaaGreatDoor
end
/- The reference: the text of a format. -/
section
namespace Go.Proofs.YtkcgngpoegglnaaGreatDoor
open Go Go.RowKit
set_option linter.unusedVariables false
set_option linter.unusedSimpArgs false

/-- the text of a format that is not long. -/
def textG (T : STime) (l : List UInt8) : Option (List UInt8) := if l.length ≤ 60 then textF T l else none

theorem opt_ite {p : Prop} [Decidable p] {a x : List UInt8} {o : Option (List UInt8)} (h : (if p then some a else o) = some x) (ha : a.length ≤ 100) (ho : o = some x → x.length ≤ 100) : x.length ≤ 100 := by
  by_cases hp : p
  · rw [if_pos hp] at h; rw [← Option.some.inj h]; exact ha
  · rw [if_neg hp] at h; exact ho h

theorem oneF_len {T : STime} (hR : RightT T) {c : UInt8} {x : List UInt8} (h : oneF T c = some x) : x.length ≤ 100 := by
  have a := (spDayName_len (wdT T) (wdT_bd T).1 (wdT_bd T).2).2
  have b := (spMonthName_len T.m hR.m0 hR.m1).2
  have z : T.nm.data.toList.length ≤ 4 := hR.z1
  have o : (offText T.off).length ≤ 10 := by unfold offText; split <;> simp [d2]
  have hb2 : (b2 T.d).length ≤ 10 := by unfold b2; split <;> simp [d2]
  unfold oneF at h
  repeat (refine opt_ite h ?_ fun h => ?_; · first | (simp [d2, d3, d4]; done) | (simp [d2, d3, d4]; omega) | omega | (split <;> simp))
  cases h

/-- what holds at the head of a round. -/
def TextI (T : STime) (w0 : World) (l : List UInt8) (t6 t7 : Value) (w : World) : Prop :=
  ∃ (i : Nat) (out : List UInt8), t6 = .string (bs out) ∧ t7 = .int .i64 i ∧ i ≤ l.length ∧ out.length ≤ 100 * i ∧ textF T l = (textF T (l.drop i)).map (out ++ ·) ∧ TimeBox w T w0.heap.size ∧ Below w0.heap.size w0 w ∧ (0 < i → l.length ≤ 60)

theorem text_bad {T : STime} {b : UInt8} {r : List UInt8} (hb : b ≠ 37) (h : ¬ (32 ≤ b.toNat ∧ b.toNat ≤ 126)) : textF T (b :: r) = none := by
  cases r with
  | nil => rw [textF, if_neg hb, if_neg h]
  | cons c r => rw [textF, if_neg hb, if_neg h]
theorem text_lit {T : STime} {b : UInt8} {r : List UInt8} (hb : b ≠ 37) (h : 32 ≤ b.toNat ∧ b.toNat ≤ 126) : textF T (b :: r) = (textF T r).map ([b] ++ ·) := by
  cases r with
  | nil =>
    have e : textF T [b] = some [b] := by rw [textF, if_neg hb, if_pos h]
    rw [e]; rfl
  | cons c r => rw [textF, if_neg hb, if_pos h]; rfl
theorem text_pct {T : STime} {c : UInt8} {r : List UInt8} : textF T (37 :: c :: r) = (oneF T c).bind fun x => (textF T r).map (x ++ ·) := by
  rw [textF, if_pos rfl]

theorem map_map_app (o : Option (List UInt8)) (a b : List UInt8) : (o.map (b ++ ·)).map (a ++ ·) = o.map ((a ++ b) ++ ·) := by
  cases o with
  | none => rfl
  | some x => simp [List.append_assoc]

set_option maxRecDepth 100000 in
set_option maxHeartbeats 8000000 in
theorem text_sp (T : STime) (hR : RightT T) (l : List UInt8) (hl : l.length ≤ 2147483647) (w : World) : Calls Tryz.prog 9 #[.string (bs l), .agg (timeCells T)] w (OneRes w (textG T l)) := by
  have hbx : Below w.heap.size w (w.alloc (.cells (timeCells T) 25)) := (Below.refl _ _).alloc (Nat.le_refl _) _
  have I0 := Lib.hid (show TextI T w l (.string (bs [])) (.int .i64 0) (w.alloc (.cells (timeCells T) 25)) from ⟨0, [], rfl, rfl, Nat.zero_le _, by simp, by cases h : textF T l <;> simp [h], TimeBox.new w T, hbx, by omega⟩)
  obtain ⟨g0, g1, g2, g3, g4, g5, g6, g7, g8⟩ := (TimeBox.new w T).cells
  have HO := fun w c => one_all T hR w c
  have hsz := bs_size l
  clear hbx
  unfold timeCells at *
  go_enter Tryz.func9, Tryz.ntmps9
  go_wp2
  go_loopw [6, 7] (fun t6 t7 wr => TextI T w l t6 t7 wr) (fun _ t7 _ => l.length - (intOf t7).toNat)
  case atStart => exact I0.out
  case round =>
    obtain ⟨i, out, rfl, rfl, hi, hol, hrest, hT, hB, h60⟩ := hrel
    clear I0 g0 g1 g2 g3 g4 g5 g6 g7 g8
    obtain ⟨r0, r1, r2, r3, r4, r5, r6, r7, r8⟩ := hT.cells
    have hlt0 := lt_of_block hT
    have HT := Lib.hid hT
    have HB := Lib.hid hB
    have HR := Lib.hid hrest
    clear hT hB hrest
    have hszi : ((bs l).size : Int) = (l.length : Int) := by omega
    by_cases hlt : i < l.length
    · have hd : l.drop i = l[i] :: l.drop (i + 1) := List.drop_eq_getElem_cons hlt
      obtain ⟨b, hb⟩ : ∃ b, b = l[i] := ⟨_, rfl⟩
      rw [← hb] at hd
      have hget : ∀ (h : i < (bs l).size), (bs l)[i] = b := fun h => by rw [bs_get, hb]
      have hlti : (i : Int) < (l.length : Int) := by omega
      have gnone : textF T (b :: l.drop (i + 1)) = none → textG T l = none := fun h => by
        unfold textG
        split
        · rw [HR.out, hd, h]; rfl
        · rfl
      have hb255 := UInt8.toNat_lt b
      have HD := Lib.hid hd
      by_cases k0 : (b.toNat : Int) < 32
      · have hN := gnone (text_bad (by rintro rfl; exact absurd k0 (by decide)) (by omega))
        rw [hN]
        clear gnone hd hb hN
        go_wp2
        go_ret2
        exact ⟨HB.out, rfl⟩
      by_cases k1 : (126 : Int) < (b.toNat : Int)
      · have hN := gnone (text_bad (by rintro rfl; exact absurd k1 (by decide)) (by omega))
        rw [hN]
        clear gnone hd hb hN
        go_wp2
        go_ret2
        exact ⟨HB.out, rfl⟩
      by_cases k2 : (60 : Int) < (l.length : Int)
      · have hN : textG T l = none := by unfold textG; rw [if_neg (by omega)]
        rw [hN]
        clear gnone hd hb hN
        go_wp2
        go_ret2
        exact ⟨HB.out, rfl⟩
      have hll : l.length ≤ 60 := by omega
      by_cases b37 : b = 37
      · have bq : ((b.toNat : Int) != 37) = false := by subst b37; rfl
        by_cases hend : i + 1 = l.length
        · have hq : ((i : Int) + 1 == (l.length : Int)) = true := by rw [beq_iff_eq]; omega
          have hN := gnone (by rw [b37, List.drop_eq_nil_of_le (by omega)]; rw [textF, if_pos rfl])
          rw [hN]
          clear gnone hd hb hN
          go_wp2
          go_ret2
          exact ⟨HB.out, rfl⟩
        · have hq : ((i : Int) + 1 == (l.length : Int)) = false := by rw [beq_eq_false_iff_ne]; omega
          have hlt2 : i + 1 < l.length := by omega
          have hd2 : l.drop (i + 1) = l[i + 1] :: l.drop (i + 1 + 1) := List.drop_eq_getElem_cons hlt2
          obtain ⟨c, hc⟩ : ∃ c, c = l[i + 1] := ⟨_, rfl⟩
          rw [← hc] at hd2
          have hget2 : ∀ (h : i + 1 < (bs l).size), (bs l)[i + 1] = c := fun h => by rw [bs_get, hc]
          have hlti2 : (i : Int) + 1 < (l.length : Int) := by omega
          have hlti3 : (0 : Int) ≤ (i : Int) + 1 := by omega
          have hstep : textF T l = ((oneF T c).bind fun x => (textF T (l.drop (i + 2))).map (x ++ ·)).map (out ++ ·) := by
            rw [HR.out, hd, b37, hd2, text_pct]
          have hO := fun w => HO w c
          have HDW := Lib.hid (show Below wr.heap.size wr wr.drew from ⟨rfl, rfl, rfl, Nat.le_refl _, fun _ _ => rfl⟩)
          cases hoc : oneF T c with
          | none =>
            rw [hoc] at hO hstep
            have hN : textG T l = none := by unfold textG; rw [if_pos hll, hstep]; rfl
            rw [hN]
            unfold OneRes at hO
            clear gnone hd hb hN hc hd2 hstep HO hoc
            go_wp2_with (fail)
            go_region_law (first | (go_simp; go_at_call 13; refine (hO _).mono ?_; rintro e w2 ⟨hb2, rfl⟩; have B2 := Lib.hid (HB.out.trans ((HDW.out.trans hb2).mono HB.out.size)); clear hb2; dsimp only))
            all_goals
              go_wp2
              go_ret2
              exact ⟨B2.out, rfl⟩
          | some x =>
            have hxl := oneF_len hR hoc
            rw [hoc] at hO hstep
            have hst2 : textF T l = (textF T (l.drop (i + 2))).map ((out ++ x) ++ ·) := by rw [hstep]; exact map_map_app _ _ _
            have hsum : ¬ (9223372036854775807 < (bs out).size + (bs x).size) := by rw [bs_size, bs_size]; omega
            have hap : bs out ++ bs x = bs (out ++ x) := bs_append _ _
            have HS := Lib.hid hst2
            have HOX := Lib.hid (show (out ++ x).length ≤ 100 * (i + 2) by rw [List.length_append]; omega)
            have hO2 : ∀ w, Calls Tryz.prog 13 #[.int .u8 c.toNat, .agg #[.int .i64 T.y, .int .i64 T.m, .int .i64 T.d, .int .i64 T.hh, .int .i64 T.mm, .int .i64 T.ss, .int .i64 T.ns, .int .i64 T.off, .string T.nm]] w (fun e w' => Below w.heap.size w w' ∧ e = .returned (.tuple #[.string (bs x), .bool true])) := hO
            clear gnone hd hb hc hd2 hstep hst2 HO hoc hO
            generalize hvx : bs (out ++ x) = vx at *
            generalize bs out = vo at *
            generalize bs x = xx at *
            go_wp2_with (fail)
            go_region_law (first | (go_simp; go_at_call 13; refine (hO2 _).mono ?_; rintro e w2 ⟨hb2, rfl⟩; have B2 := Lib.hid (HB.out.trans ((HDW.out.trans hb2).mono HB.out.size)); have T2 := Lib.hid (HT.out.keep (HDW.out.trans hb2)); clear hb2; dsimp only))
            all_goals
              go_wp2
              go_roundw
              case rel => exact ⟨i + 2, out ++ x, by rw [hvx], by go_num, by omega, HOX.out, HS.out, T2.out, B2.out, fun _ => hll⟩
              case measure => simp [intOf]; omega
      · have bq : ((b.toNat : Int) != 37) = true := by
          rw [bne_iff_ne]; intro e; exact b37 (UInt8.toNat.inj (show b.toNat = 37 by omega))
        have hst2 : textF T l = (textF T (l.drop (i + 1))).map ((out ++ [b]) ++ ·) := by rw [HR.out, hd, text_lit b37 (by omega)]; exact map_map_app _ _ _
        have hex : (bs l).extract i (i + 1) = bs [b] := by rw [bs_extract, hd]; simp
        have hsum : ¬ (9223372036854775807 < (bs out).size + (bs [b]).size) := by rw [bs_size, bs_size]; simp; omega
        have hap : bs out ++ bs [b] = bs (out ++ [b]) := bs_append _ _
        have HS := Lib.hid hst2
        have HOX := Lib.hid (show (out ++ [b]).length ≤ 100 * (i + 1) by rw [List.length_append]; simp; omega)
        clear gnone hd hb hst2 HO
        generalize hvx : bs (out ++ [b]) = vx at *
        generalize bs out = vo at *
        generalize bs [b] = xx at *
        go_wp2
        go_roundw
        case rel => exact ⟨i + 1, out ++ [b], by rw [hvx], by go_num, by omega, HOX.out, HS.out, HT.out, HB.out, fun _ => hll⟩
        case measure => simp [intOf]; omega
    · have hil : i = l.length := by omega
      have hnl : ¬ (i : Int) < (l.length : Int) := by omega
      have hg : textG T l = some out := by
        have e : textF T l = some out := by
          rw [HR.out, hil, List.drop_length]
          show Option.map (out ++ ·) (some []) = some out
          simp
        unfold textG
        rw [if_pos, e]
        rcases Nat.eq_zero_or_pos i with h | h
        · omega
        · exact h60 h
      rw [hg]
      go_wp2
      go_ret2
      exact ⟨HB.out, rfl⟩
end Go.Proofs.YtkcgngpoegglnaaGreatDoor
end
