/- The second package: every directive is written as the reference says. -/
import Derived.Test.YtkcgngpoegglnaaGreatDoorM38
import Derived.Test.YtkcgngpoegglnaaGreatDoorM36
namespace Go.Proofs.YtkcgngpoegglnaaGreatDoor
open Go Go.RowKit
set_option linter.unusedVariables false
set_option linter.unusedSimpArgs false
set_option maxHeartbeats 4000000 in
theorem dirOK_of {T : STime} (hR : RightT T) : DirOK T := by
  intro c x hx w b bt g C v out wl ex lc h hl
  have N := nums_of hR
  have hO := okTime_of hR
  have hy0 := hR.y0
  have hy1 := hR.y1
  have hh12 := h12_eq T.hh hR.h0 hR.h1
  obtain ⟨b1, b2, b3⟩ := abs_day T.y T.m T.d hR.m0 hR.m1 hR.d0 hR.d1
  have hI := isoY_bd T.y _ hR.y0 hR.y1 b2 b3
  clear b1 b2 b3
  by_cases h97 : c = 97
  · subst h97
    have D := dir_a h hl
    simp [oneF] at hx
    subst hx
    simp only [layText, Atom.text, El.text, List.flatMap_cons, List.flatMap_nil, List.append_nil, List.append_assoc, List.cons_append, List.nil_append, N.y, N.m, N.d, N.yd, N.wd, N.iy, N.iw, N.hh, N.mm, N.ss, b2, hh12] at D ⊢
    exact D
  by_cases h65 : c = 65
  · subst h65
    have D := dir_A h hl
    simp [oneF] at hx
    subst hx
    simp only [layText, Atom.text, El.text, List.flatMap_cons, List.flatMap_nil, List.append_nil, List.append_assoc, List.cons_append, List.nil_append, N.y, N.m, N.d, N.yd, N.wd, N.iy, N.iw, N.hh, N.mm, N.ss, b2, hh12] at D ⊢
    exact D
  by_cases h98 : c = 98
  · subst h98
    have D := dir_b h hl
    simp [oneF] at hx
    subst hx
    simp only [layText, Atom.text, El.text, List.flatMap_cons, List.flatMap_nil, List.append_nil, List.append_assoc, List.cons_append, List.nil_append, N.y, N.m, N.d, N.yd, N.wd, N.iy, N.iw, N.hh, N.mm, N.ss, b2, hh12] at D ⊢
    exact D
  by_cases h104 : c = 104
  · subst h104
    have D := dir_h h hl
    simp [oneF] at hx
    subst hx
    simp only [layText, Atom.text, El.text, List.flatMap_cons, List.flatMap_nil, List.append_nil, List.append_assoc, List.cons_append, List.nil_append, N.y, N.m, N.d, N.yd, N.wd, N.iy, N.iw, N.hh, N.mm, N.ss, b2, hh12] at D ⊢
    exact D
  by_cases h66 : c = 66
  · subst h66
    have D := dir_B h hl
    simp [oneF] at hx
    subst hx
    simp only [layText, Atom.text, El.text, List.flatMap_cons, List.flatMap_nil, List.append_nil, List.append_assoc, List.cons_append, List.nil_append, N.y, N.m, N.d, N.yd, N.wd, N.iy, N.iw, N.hh, N.mm, N.ss, b2, hh12] at D ⊢
    exact D
  by_cases h67 : c = 67
  · subst h67
    have D := dir_C h hl (by rw [N.y]; omega) (by rw [N.y]; omega)
    simp [oneF] at hx
    subst hx
    simp only [layText, Atom.text, El.text, List.flatMap_cons, List.flatMap_nil, List.append_nil, List.append_assoc, List.cons_append, List.nil_append, N.y, N.m, N.d, N.yd, N.wd, N.iy, N.iw, N.hh, N.mm, N.ss, b2, hh12] at D ⊢
    exact D
  by_cases h100 : c = 100
  · subst h100
    have D := dir_d h hl
    simp [oneF] at hx
    subst hx
    simp only [layText, Atom.text, El.text, List.flatMap_cons, List.flatMap_nil, List.append_nil, List.append_assoc, List.cons_append, List.nil_append, N.y, N.m, N.d, N.yd, N.wd, N.iy, N.iw, N.hh, N.mm, N.ss, b2, hh12] at D ⊢
    exact D
  by_cases h68 : c = 68
  · subst h68
    have D := dir_D h hO hl
    simp [oneF] at hx
    subst hx
    simp only [layText, Atom.text, El.text, List.flatMap_cons, List.flatMap_nil, List.append_nil, List.append_assoc, List.cons_append, List.nil_append, N.y, N.m, N.d, N.yd, N.wd, N.iy, N.iw, N.hh, N.mm, N.ss, b2, hh12] at D ⊢
    exact D
  by_cases h101 : c = 101
  · subst h101
    have D := dir_e h hl
    simp [oneF] at hx
    subst hx
    simp only [layText, Atom.text, El.text, List.flatMap_cons, List.flatMap_nil, List.append_nil, List.append_assoc, List.cons_append, List.nil_append, N.y, N.m, N.d, N.yd, N.wd, N.iy, N.iw, N.hh, N.mm, N.ss, b2, hh12] at D ⊢
    exact D
  by_cases h70 : c = 70
  · subst h70
    have D := dir_F h hO hl
    simp [oneF] at hx
    subst hx
    simp only [layText, Atom.text, El.text, List.flatMap_cons, List.flatMap_nil, List.append_nil, List.append_assoc, List.cons_append, List.nil_append, N.y, N.m, N.d, N.yd, N.wd, N.iy, N.iw, N.hh, N.mm, N.ss, b2, hh12] at D ⊢
    exact D
  by_cases h103 : c = 103
  · subst h103
    have D := dir_g h hl (by rw [N.iy]; exact hI.1) (by rw [N.iy]; exact hI.2)
    simp [oneF] at hx
    subst hx
    simp only [layText, Atom.text, El.text, List.flatMap_cons, List.flatMap_nil, List.append_nil, List.append_assoc, List.cons_append, List.nil_append, N.y, N.m, N.d, N.yd, N.wd, N.iy, N.iw, N.hh, N.mm, N.ss, b2, hh12] at D ⊢
    exact D
  by_cases h71 : c = 71
  · subst h71
    have D := dir_G h hl (by rw [N.iy]; exact hI.1) (by rw [N.iy]; exact hI.2)
    simp [oneF] at hx
    subst hx
    simp only [layText, Atom.text, El.text, List.flatMap_cons, List.flatMap_nil, List.append_nil, List.append_assoc, List.cons_append, List.nil_append, N.y, N.m, N.d, N.yd, N.wd, N.iy, N.iw, N.hh, N.mm, N.ss, b2, hh12] at D ⊢
    exact D
  by_cases h72 : c = 72
  · subst h72
    have D := dir_H h hl
    simp [oneF] at hx
    subst hx
    simp only [layText, Atom.text, El.text, List.flatMap_cons, List.flatMap_nil, List.append_nil, List.append_assoc, List.cons_append, List.nil_append, N.y, N.m, N.d, N.yd, N.wd, N.iy, N.iw, N.hh, N.mm, N.ss, b2, hh12] at D ⊢
    exact D
  by_cases h73 : c = 73
  · subst h73
    have D := dir_I h hl
    simp [oneF] at hx
    subst hx
    simp only [layText, Atom.text, El.text, List.flatMap_cons, List.flatMap_nil, List.append_nil, List.append_assoc, List.cons_append, List.nil_append, N.y, N.m, N.d, N.yd, N.wd, N.iy, N.iw, N.hh, N.mm, N.ss, b2, hh12] at D ⊢
    exact D
  by_cases h106 : c = 106
  · subst h106
    have D := dir_j h hO hl
    simp [oneF] at hx
    subst hx
    simp only [layText, Atom.text, El.text, List.flatMap_cons, List.flatMap_nil, List.append_nil, List.append_assoc, List.cons_append, List.nil_append, N.y, N.m, N.d, N.yd, N.wd, N.iy, N.iw, N.hh, N.mm, N.ss, b2, hh12] at D ⊢
    exact D
  by_cases h109 : c = 109
  · subst h109
    have D := dir_m h hl
    simp [oneF] at hx
    subst hx
    simp only [layText, Atom.text, El.text, List.flatMap_cons, List.flatMap_nil, List.append_nil, List.append_assoc, List.cons_append, List.nil_append, N.y, N.m, N.d, N.yd, N.wd, N.iy, N.iw, N.hh, N.mm, N.ss, b2, hh12] at D ⊢
    exact D
  by_cases h77 : c = 77
  · subst h77
    have D := dir_M h hl
    simp [oneF] at hx
    subst hx
    simp only [layText, Atom.text, El.text, List.flatMap_cons, List.flatMap_nil, List.append_nil, List.append_assoc, List.cons_append, List.nil_append, N.y, N.m, N.d, N.yd, N.wd, N.iy, N.iw, N.hh, N.mm, N.ss, b2, hh12] at D ⊢
    exact D
  by_cases h110 : c = 110
  · subst h110
    have D := dir_n h hO hl
    simp [oneF] at hx
    subst hx
    simp only [layText, Atom.text, El.text, List.flatMap_cons, List.flatMap_nil, List.append_nil, List.append_assoc, List.cons_append, List.nil_append, N.y, N.m, N.d, N.yd, N.wd, N.iy, N.iw, N.hh, N.mm, N.ss, b2, hh12] at D ⊢
    exact D
  by_cases h112 : c = 112
  · subst h112
    have D := dir_p h hO hl
    simp [oneF] at hx
    subst hx
    simp only [layText, Atom.text, El.text, List.flatMap_cons, List.flatMap_nil, List.append_nil, List.append_assoc, List.cons_append, List.nil_append, N.y, N.m, N.d, N.yd, N.wd, N.iy, N.iw, N.hh, N.mm, N.ss, b2, hh12] at D ⊢
    by_cases hp : T.hh < 12
    · rw [if_pos hp]
      rw [if_neg (by omega)] at D
      exact D
    · rw [if_neg hp]
      rw [if_pos (by omega)] at D
      exact D
  by_cases h82 : c = 82
  · subst h82
    have D := dir_R h hO hl
    simp [oneF] at hx
    subst hx
    simp only [layText, Atom.text, El.text, List.flatMap_cons, List.flatMap_nil, List.append_nil, List.append_assoc, List.cons_append, List.nil_append, N.y, N.m, N.d, N.yd, N.wd, N.iy, N.iw, N.hh, N.mm, N.ss, b2, hh12] at D ⊢
    exact D
  by_cases h83 : c = 83
  · subst h83
    have D := dir_S h hl
    simp [oneF] at hx
    subst hx
    simp only [layText, Atom.text, El.text, List.flatMap_cons, List.flatMap_nil, List.append_nil, List.append_assoc, List.cons_append, List.nil_append, N.y, N.m, N.d, N.yd, N.wd, N.iy, N.iw, N.hh, N.mm, N.ss, b2, hh12] at D ⊢
    exact D
  by_cases h84 : c = 84
  · subst h84
    have D := dir_T h hO hl
    simp [oneF] at hx
    subst hx
    simp only [layText, Atom.text, El.text, List.flatMap_cons, List.flatMap_nil, List.append_nil, List.append_assoc, List.cons_append, List.nil_append, N.y, N.m, N.d, N.yd, N.wd, N.iy, N.iw, N.hh, N.mm, N.ss, b2, hh12] at D ⊢
    exact D
  by_cases h116 : c = 116
  · subst h116
    have D := dir_t h hO hl
    simp [oneF] at hx
    subst hx
    simp only [layText, Atom.text, El.text, List.flatMap_cons, List.flatMap_nil, List.append_nil, List.append_assoc, List.cons_append, List.nil_append, N.y, N.m, N.d, N.yd, N.wd, N.iy, N.iw, N.hh, N.mm, N.ss, b2, hh12] at D ⊢
    exact D
  by_cases h117 : c = 117
  · subst h117
    have D := dir_u h hl
    simp [oneF] at hx
    subst hx
    simp only [layText, Atom.text, El.text, List.flatMap_cons, List.flatMap_nil, List.append_nil, List.append_assoc, List.cons_append, List.nil_append, N.y, N.m, N.d, N.yd, N.wd, N.iy, N.iw, N.hh, N.mm, N.ss, b2, hh12] at D ⊢
    exact D
  by_cases h85 : c = 85
  · subst h85
    have D := dir_U h hl
    simp [oneF] at hx
    subst hx
    simp only [layText, Atom.text, El.text, List.flatMap_cons, List.flatMap_nil, List.append_nil, List.append_assoc, List.cons_append, List.nil_append, N.y, N.m, N.d, N.yd, N.wd, N.iy, N.iw, N.hh, N.mm, N.ss, b2, hh12] at D ⊢
    exact D
  by_cases h86 : c = 86
  · subst h86
    have D := dir_V h hl
    simp [oneF] at hx
    subst hx
    simp only [layText, Atom.text, El.text, List.flatMap_cons, List.flatMap_nil, List.append_nil, List.append_assoc, List.cons_append, List.nil_append, N.y, N.m, N.d, N.yd, N.wd, N.iy, N.iw, N.hh, N.mm, N.ss, b2, hh12] at D ⊢
    exact D
  by_cases h119 : c = 119
  · subst h119
    have D := dir_w h hl
    simp [oneF] at hx
    subst hx
    simp only [layText, Atom.text, El.text, List.flatMap_cons, List.flatMap_nil, List.append_nil, List.append_assoc, List.cons_append, List.nil_append, N.y, N.m, N.d, N.yd, N.wd, N.iy, N.iw, N.hh, N.mm, N.ss, b2, hh12] at D ⊢
    exact D
  by_cases h87 : c = 87
  · subst h87
    have D := dir_W h hl
    simp [oneF] at hx
    subst hx
    simp only [layText, Atom.text, El.text, List.flatMap_cons, List.flatMap_nil, List.append_nil, List.append_assoc, List.cons_append, List.nil_append, N.y, N.m, N.d, N.yd, N.wd, N.iy, N.iw, N.hh, N.mm, N.ss, b2, hh12] at D ⊢
    exact D
  by_cases h121 : c = 121
  · subst h121
    have D := dir_y h hO hl
    simp [oneF] at hx
    subst hx
    simp only [layText, Atom.text, El.text, List.flatMap_cons, List.flatMap_nil, List.append_nil, List.append_assoc, List.cons_append, List.nil_append, N.y, N.m, N.d, N.yd, N.wd, N.iy, N.iw, N.hh, N.mm, N.ss, b2, hh12] at D ⊢
    exact D
  by_cases h89 : c = 89
  · subst h89
    have D := dir_Y h hO hl
    simp [oneF] at hx
    subst hx
    simp only [layText, Atom.text, El.text, List.flatMap_cons, List.flatMap_nil, List.append_nil, List.append_assoc, List.cons_append, List.nil_append, N.y, N.m, N.d, N.yd, N.wd, N.iy, N.iw, N.hh, N.mm, N.ss, b2, hh12] at D ⊢
    exact D
  by_cases h122 : c = 122
  · subst h122
    have D := dir_z h hO hl
    simp [oneF] at hx
    subst hx
    simp only [layText, Atom.text, El.text, List.flatMap_cons, List.flatMap_nil, List.append_nil, List.append_assoc, List.cons_append, List.nil_append, N.y, N.m, N.d, N.yd, N.wd, N.iy, N.iw, N.hh, N.mm, N.ss, b2, hh12] at D ⊢
    exact D
  by_cases h90 : c = 90
  · subst h90
    have D := dir_Z h hO hl
    simp [oneF] at hx
    subst hx
    simp only [layText, Atom.text, El.text, List.flatMap_cons, List.flatMap_nil, List.append_nil, List.append_assoc, List.cons_append, List.nil_append, N.y, N.m, N.d, N.yd, N.wd, N.iy, N.iw, N.hh, N.mm, N.ss, b2, hh12] at D ⊢
    exact D
  by_cases h37 : c = 37
  · subst h37
    have D := dir_pc h hO hl
    simp [oneF] at hx
    subst hx
    simp only [layText, Atom.text, El.text, List.flatMap_cons, List.flatMap_nil, List.append_nil, List.append_assoc, List.cons_append, List.nil_append, N.y, N.m, N.d, N.yd, N.wd, N.iy, N.iw, N.hh, N.mm, N.ss, b2, hh12] at D ⊢
    exact D
  simp [h97, h65, h98, h104, h66, h67, h100, h68, h101, h70, h103, h71, h72, h73, h106, h109, h77, h110, h112, h82, h83, h84, h116, h117, h85, h86, h119, h87, h121, h89, h122, h90, h37, oneF] at hx
end Go.Proofs.YtkcgngpoegglnaaGreatDoor
