/- The second package: the directives that go by a layout. -/
import Derived.Test.YtkcgngpoegglnaaGreatDoorM17
import Derived.Test.YtkcgngpoegglnaaGreatDoorM30
namespace Go.Proofs.YtkcgngpoegglnaaGreatDoor
open Go Go.RowKit
set_option linter.unusedVariables false
set_option linter.unusedSimpArgs false

theorem okAtoms_all (ats : List Atom) (h : ats.all Atom.ok = true) : okAtoms ats := fun a ha => List.all_eq_true.1 h a ha

theorem layText_len {A : Int} {nm : ByteArray} {off : Int} (hO : OkTime nm off A) (e : El) : (e.text A nm off).length ≤ 200 := by
  have hm := monthName_len9 _ (monthF_bd9 (A / 86400)).1 (monthF_bd9 (A / 86400)).2
  have hd := dayName_len9 ((A / 86400 + 3) % 7) (by omega) (by omega)
  obtain ⟨c, q, hn, hq⟩ := hO.n
  cases e with
  | january => exact Nat.le_trans hm.2 (by omega)
  | jan => simp only [El.text, List.length_take]; omega
  | monday => exact Nat.le_trans hd.2 (by omega)
  | mon => simp only [El.text, List.length_take]; omega
  | u2 => simp only [El.text]; split <;> simp [d2]
  | pm => simp only [El.text]; split <;> simp
  | mst => simp only [El.text]; rw [hn, bs_data]; simp; omega
  | tz => simp only [El.text, offText]; split <;> simp [d2]
  | _ => simp [El.text, d2, d3, d4]

theorem layText_bd {A : Int} {nm : ByteArray} {off : Int} (hO : OkTime nm off A) (ats : List Atom) : (layText A nm off ats).length ≤ 200 * ats.length := by
  induction ats with
  | nil => simp [layText]
  | cons a ats ih =>
    have e0 : layText A nm off (a :: ats) = a.text A nm off ++ layText A nm off ats := rfl
    rw [e0, List.length_append, List.length_cons]
    have : (a.text A nm off).length ≤ 200 := by
      cases a with
      | el e => exact layText_len hO e
      | ch c => simp [Atom.text]
    omega

section
variable {w : World} {b bt g C : Nat} {v : Value} {out : List UInt8} {wl ex : Int} {lc : Option Addr} {A : Int} {nm : ByteArray} {off : Int}

theorem golay_D (w : World) : Calls Tryz.prog 74 #[.int .u8 68, .int .u8 0, .bool false] w fun e w' => e = .returned (.string ⟨#[48, 49, 47, 48, 50, 47, 48, 54]⟩) ∧ w = w' := by
  go_enter Tryz.func74, Tryz.ntmps74
  go_wp2
  go_ret
  exact ⟨rfl, rfl⟩

theorem golay_F (w : World) : Calls Tryz.prog 74 #[.int .u8 70, .int .u8 0, .bool false] w fun e w' => e = .returned (.string ⟨#[50, 48, 48, 54, 45, 48, 49, 45, 48, 50]⟩) ∧ w = w' := by
  go_enter Tryz.func74, Tryz.ntmps74
  go_wp2
  go_ret
  exact ⟨rfl, rfl⟩

theorem golay_n (w : World) : Calls Tryz.prog 74 #[.int .u8 110, .int .u8 0, .bool false] w fun e w' => e = .returned (.string ⟨#[10]⟩) ∧ w = w' := by
  go_enter Tryz.func74, Tryz.ntmps74
  go_wp2
  go_ret
  exact ⟨rfl, rfl⟩

theorem golay_p (w : World) : Calls Tryz.prog 74 #[.int .u8 112, .int .u8 0, .bool false] w fun e w' => e = .returned (.string ⟨#[80, 77]⟩) ∧ w = w' := by
  go_enter Tryz.func74, Tryz.ntmps74
  go_wp2
  go_ret
  exact ⟨rfl, rfl⟩

theorem golay_R (w : World) : Calls Tryz.prog 74 #[.int .u8 82, .int .u8 0, .bool false] w fun e w' => e = .returned (.string ⟨#[49, 53, 58, 48, 52]⟩) ∧ w = w' := by
  go_enter Tryz.func74, Tryz.ntmps74
  go_wp2
  go_ret
  exact ⟨rfl, rfl⟩

theorem golay_T (w : World) : Calls Tryz.prog 74 #[.int .u8 84, .int .u8 0, .bool false] w fun e w' => e = .returned (.string ⟨#[49, 53, 58, 48, 52, 58, 48, 53]⟩) ∧ w = w' := by
  go_enter Tryz.func74, Tryz.ntmps74
  go_wp2
  go_ret
  exact ⟨rfl, rfl⟩

theorem golay_t (w : World) : Calls Tryz.prog 74 #[.int .u8 116, .int .u8 0, .bool false] w fun e w' => e = .returned (.string ⟨#[9]⟩) ∧ w = w' := by
  go_enter Tryz.func74, Tryz.ntmps74
  go_wp2
  go_ret
  exact ⟨rfl, rfl⟩

theorem golay_z (w : World) : Calls Tryz.prog 74 #[.int .u8 122, .int .u8 0, .bool false] w fun e w' => e = .returned (.string ⟨#[45, 48, 55, 48, 48]⟩) ∧ w = w' := by
  go_enter Tryz.func74, Tryz.ntmps74
  go_wp2
  go_ret
  exact ⟨rfl, rfl⟩

theorem golay_Z (w : World) : Calls Tryz.prog 74 #[.int .u8 90, .int .u8 0, .bool false] w fun e w' => e = .returned (.string ⟨#[77, 83, 84]⟩) ∧ w = w' := by
  go_enter Tryz.func74, Tryz.ntmps74
  go_wp2
  go_ret
  exact ⟨rfl, rfl⟩

theorem golay_pc (w : World) : Calls Tryz.prog 74 #[.int .u8 37, .int .u8 0, .bool false] w fun e w' => e = .returned (.string ⟨#[37]⟩) ∧ w = w' := by
  go_enter Tryz.func74, Tryz.ntmps74
  go_wp2
  go_ret
  exact ⟨rfl, rfl⟩

set_option maxRecDepth 100000 in
set_option maxHeartbeats 4000000 in
theorem dir_D (h : St w b bt g v out C wl ex lc A nm off) (hO : OkTime nm off A) (hl : out.length ≤ 400000) :
    Calls Tryz.prog 52 #[.int .u8 68, .int .u8 0, .pointer (some ⟨b, 0, none⟩), .pointer (some ⟨bt, 0, none⟩)] w (WrotePost w b g (out ++ layText A nm off [.el .z1, .ch 47, .el .z2, .ch 47, .el .z6])) := by
  have hcg := h.cg
  have hc1 := h.c1
  have hbd := layText_bd hO [.el .z1, .ch 47, .el .z2, .ch 47, .el .z6]
  simp only [List.length_cons, List.length_nil] at hbd
  have H := AppendFormat_any h.tm hO [.el .z1, .ch 47, .el .z2, .ch 47, .el .z6] ⟨okAtoms_all _ (by decide), by simp [no002, List.drop]⟩ (by decide) h.x v g out (by omega) h.dst.buf (by rw [List.length_append]; omega) ⟨#[48, 49, 47, 48, 50, 47, 48, 54]⟩ rfl
  generalize layText A nm off [.el .z1, .ch 47, .el .z2, .ch 47, .el .z6] = tx at *
  obtain ⟨c0, f0, c1, c2, c3⟩ := h.cells
  go_enter Tryz.func52, Tryz.ntmps52
  go_wp2_with (first | (go_at_call 74; refine (golay_D _).mono ?_; rintro e w' ⟨rfl, rfl⟩) | (go_at_call 64; refine H.mono ?_; rintro e w1 ⟨g', v', rfl, happ⟩; obtain ⟨n', cap', rfl⟩ := happ.buf.shape; obtain ⟨c10, f10⟩ := h.dst.cells_append happ))
  go_ret
  exact ⟨rfl, g', _, Wrote.of_append h.dst happ⟩

set_option maxRecDepth 100000 in
set_option maxHeartbeats 4000000 in
theorem dir_F (h : St w b bt g v out C wl ex lc A nm off) (hO : OkTime nm off A) (hl : out.length ≤ 400000) :
    Calls Tryz.prog 52 #[.int .u8 70, .int .u8 0, .pointer (some ⟨b, 0, none⟩), .pointer (some ⟨bt, 0, none⟩)] w (WrotePost w b g (out ++ layText A nm off [.el .y4, .ch 45, .el .z1, .ch 45, .el .z2])) := by
  have hcg := h.cg
  have hc1 := h.c1
  have hbd := layText_bd hO [.el .y4, .ch 45, .el .z1, .ch 45, .el .z2]
  simp only [List.length_cons, List.length_nil] at hbd
  have H := AppendFormat_any h.tm hO [.el .y4, .ch 45, .el .z1, .ch 45, .el .z2] ⟨okAtoms_all _ (by decide), by simp [no002, List.drop]⟩ (by decide) h.x v g out (by omega) h.dst.buf (by rw [List.length_append]; omega) ⟨#[50, 48, 48, 54, 45, 48, 49, 45, 48, 50]⟩ rfl
  generalize layText A nm off [.el .y4, .ch 45, .el .z1, .ch 45, .el .z2] = tx at *
  obtain ⟨c0, f0, c1, c2, c3⟩ := h.cells
  go_enter Tryz.func52, Tryz.ntmps52
  go_wp2_with (first | (go_at_call 74; refine (golay_F _).mono ?_; rintro e w' ⟨rfl, rfl⟩) | (go_at_call 64; refine H.mono ?_; rintro e w1 ⟨g', v', rfl, happ⟩; obtain ⟨n', cap', rfl⟩ := happ.buf.shape; obtain ⟨c10, f10⟩ := h.dst.cells_append happ))
  go_ret
  exact ⟨rfl, g', _, Wrote.of_append h.dst happ⟩

set_option maxRecDepth 100000 in
set_option maxHeartbeats 4000000 in
theorem dir_n (h : St w b bt g v out C wl ex lc A nm off) (hO : OkTime nm off A) (hl : out.length ≤ 400000) :
    Calls Tryz.prog 52 #[.int .u8 110, .int .u8 0, .pointer (some ⟨b, 0, none⟩), .pointer (some ⟨bt, 0, none⟩)] w (WrotePost w b g (out ++ layText A nm off [.ch 10])) := by
  have hcg := h.cg
  have hc1 := h.c1
  have hbd := layText_bd hO [.ch 10]
  simp only [List.length_cons, List.length_nil] at hbd
  have H := AppendFormat_any h.tm hO [.ch 10] ⟨okAtoms_all _ (by decide), by simp [no002, List.drop]⟩ (by decide) h.x v g out (by omega) h.dst.buf (by rw [List.length_append]; omega) ⟨#[10]⟩ rfl
  generalize layText A nm off [.ch 10] = tx at *
  obtain ⟨c0, f0, c1, c2, c3⟩ := h.cells
  go_enter Tryz.func52, Tryz.ntmps52
  go_wp2_with (first | (go_at_call 74; refine (golay_n _).mono ?_; rintro e w' ⟨rfl, rfl⟩) | (go_at_call 64; refine H.mono ?_; rintro e w1 ⟨g', v', rfl, happ⟩; obtain ⟨n', cap', rfl⟩ := happ.buf.shape; obtain ⟨c10, f10⟩ := h.dst.cells_append happ))
  go_ret
  exact ⟨rfl, g', _, Wrote.of_append h.dst happ⟩

set_option maxRecDepth 100000 in
set_option maxHeartbeats 4000000 in
theorem dir_p (h : St w b bt g v out C wl ex lc A nm off) (hO : OkTime nm off A) (hl : out.length ≤ 400000) :
    Calls Tryz.prog 52 #[.int .u8 112, .int .u8 0, .pointer (some ⟨b, 0, none⟩), .pointer (some ⟨bt, 0, none⟩)] w (WrotePost w b g (out ++ layText A nm off [.el .pm])) := by
  have hcg := h.cg
  have hc1 := h.c1
  have hbd := layText_bd hO [.el .pm]
  simp only [List.length_cons, List.length_nil] at hbd
  have H := AppendFormat_any h.tm hO [.el .pm] ⟨okAtoms_all _ (by decide), by simp [no002, List.drop]⟩ (by decide) h.x v g out (by omega) h.dst.buf (by rw [List.length_append]; omega) ⟨#[80, 77]⟩ rfl
  generalize layText A nm off [.el .pm] = tx at *
  obtain ⟨c0, f0, c1, c2, c3⟩ := h.cells
  go_enter Tryz.func52, Tryz.ntmps52
  go_wp2_with (first | (go_at_call 74; refine (golay_p _).mono ?_; rintro e w' ⟨rfl, rfl⟩) | (go_at_call 64; refine H.mono ?_; rintro e w1 ⟨g', v', rfl, happ⟩; obtain ⟨n', cap', rfl⟩ := happ.buf.shape; obtain ⟨c10, f10⟩ := h.dst.cells_append happ))
  go_ret
  exact ⟨rfl, g', _, Wrote.of_append h.dst happ⟩

set_option maxRecDepth 100000 in
set_option maxHeartbeats 4000000 in
theorem dir_R (h : St w b bt g v out C wl ex lc A nm off) (hO : OkTime nm off A) (hl : out.length ≤ 400000) :
    Calls Tryz.prog 52 #[.int .u8 82, .int .u8 0, .pointer (some ⟨b, 0, none⟩), .pointer (some ⟨bt, 0, none⟩)] w (WrotePost w b g (out ++ layText A nm off [.el .h15, .ch 58, .el .z4])) := by
  have hcg := h.cg
  have hc1 := h.c1
  have hbd := layText_bd hO [.el .h15, .ch 58, .el .z4]
  simp only [List.length_cons, List.length_nil] at hbd
  have H := AppendFormat_any h.tm hO [.el .h15, .ch 58, .el .z4] ⟨okAtoms_all _ (by decide), by simp [no002, List.drop]⟩ (by decide) h.x v g out (by omega) h.dst.buf (by rw [List.length_append]; omega) ⟨#[49, 53, 58, 48, 52]⟩ rfl
  generalize layText A nm off [.el .h15, .ch 58, .el .z4] = tx at *
  obtain ⟨c0, f0, c1, c2, c3⟩ := h.cells
  go_enter Tryz.func52, Tryz.ntmps52
  go_wp2_with (first | (go_at_call 74; refine (golay_R _).mono ?_; rintro e w' ⟨rfl, rfl⟩) | (go_at_call 64; refine H.mono ?_; rintro e w1 ⟨g', v', rfl, happ⟩; obtain ⟨n', cap', rfl⟩ := happ.buf.shape; obtain ⟨c10, f10⟩ := h.dst.cells_append happ))
  go_ret
  exact ⟨rfl, g', _, Wrote.of_append h.dst happ⟩

set_option maxRecDepth 100000 in
set_option maxHeartbeats 4000000 in
theorem dir_T (h : St w b bt g v out C wl ex lc A nm off) (hO : OkTime nm off A) (hl : out.length ≤ 400000) :
    Calls Tryz.prog 52 #[.int .u8 84, .int .u8 0, .pointer (some ⟨b, 0, none⟩), .pointer (some ⟨bt, 0, none⟩)] w (WrotePost w b g (out ++ layText A nm off [.el .h15, .ch 58, .el .z4, .ch 58, .el .z5])) := by
  have hcg := h.cg
  have hc1 := h.c1
  have hbd := layText_bd hO [.el .h15, .ch 58, .el .z4, .ch 58, .el .z5]
  simp only [List.length_cons, List.length_nil] at hbd
  have H := AppendFormat_any h.tm hO [.el .h15, .ch 58, .el .z4, .ch 58, .el .z5] ⟨okAtoms_all _ (by decide), by simp [no002, List.drop]⟩ (by decide) h.x v g out (by omega) h.dst.buf (by rw [List.length_append]; omega) ⟨#[49, 53, 58, 48, 52, 58, 48, 53]⟩ rfl
  generalize layText A nm off [.el .h15, .ch 58, .el .z4, .ch 58, .el .z5] = tx at *
  obtain ⟨c0, f0, c1, c2, c3⟩ := h.cells
  go_enter Tryz.func52, Tryz.ntmps52
  go_wp2_with (first | (go_at_call 74; refine (golay_T _).mono ?_; rintro e w' ⟨rfl, rfl⟩) | (go_at_call 64; refine H.mono ?_; rintro e w1 ⟨g', v', rfl, happ⟩; obtain ⟨n', cap', rfl⟩ := happ.buf.shape; obtain ⟨c10, f10⟩ := h.dst.cells_append happ))
  go_ret
  exact ⟨rfl, g', _, Wrote.of_append h.dst happ⟩

set_option maxRecDepth 100000 in
set_option maxHeartbeats 4000000 in
theorem dir_t (h : St w b bt g v out C wl ex lc A nm off) (hO : OkTime nm off A) (hl : out.length ≤ 400000) :
    Calls Tryz.prog 52 #[.int .u8 116, .int .u8 0, .pointer (some ⟨b, 0, none⟩), .pointer (some ⟨bt, 0, none⟩)] w (WrotePost w b g (out ++ layText A nm off [.ch 9])) := by
  have hcg := h.cg
  have hc1 := h.c1
  have hbd := layText_bd hO [.ch 9]
  simp only [List.length_cons, List.length_nil] at hbd
  have H := AppendFormat_any h.tm hO [.ch 9] ⟨okAtoms_all _ (by decide), by simp [no002, List.drop]⟩ (by decide) h.x v g out (by omega) h.dst.buf (by rw [List.length_append]; omega) ⟨#[9]⟩ rfl
  generalize layText A nm off [.ch 9] = tx at *
  obtain ⟨c0, f0, c1, c2, c3⟩ := h.cells
  go_enter Tryz.func52, Tryz.ntmps52
  go_wp2_with (first | (go_at_call 74; refine (golay_t _).mono ?_; rintro e w' ⟨rfl, rfl⟩) | (go_at_call 64; refine H.mono ?_; rintro e w1 ⟨g', v', rfl, happ⟩; obtain ⟨n', cap', rfl⟩ := happ.buf.shape; obtain ⟨c10, f10⟩ := h.dst.cells_append happ))
  go_ret
  exact ⟨rfl, g', _, Wrote.of_append h.dst happ⟩

set_option maxRecDepth 100000 in
set_option maxHeartbeats 4000000 in
theorem dir_z (h : St w b bt g v out C wl ex lc A nm off) (hO : OkTime nm off A) (hl : out.length ≤ 400000) :
    Calls Tryz.prog 52 #[.int .u8 122, .int .u8 0, .pointer (some ⟨b, 0, none⟩), .pointer (some ⟨bt, 0, none⟩)] w (WrotePost w b g (out ++ layText A nm off [.el .tz])) := by
  have hcg := h.cg
  have hc1 := h.c1
  have hbd := layText_bd hO [.el .tz]
  simp only [List.length_cons, List.length_nil] at hbd
  have H := AppendFormat_any h.tm hO [.el .tz] ⟨okAtoms_all _ (by decide), by simp [no002, List.drop]⟩ (by decide) h.x v g out (by omega) h.dst.buf (by rw [List.length_append]; omega) ⟨#[45, 48, 55, 48, 48]⟩ rfl
  generalize layText A nm off [.el .tz] = tx at *
  obtain ⟨c0, f0, c1, c2, c3⟩ := h.cells
  go_enter Tryz.func52, Tryz.ntmps52
  go_wp2_with (first | (go_at_call 74; refine (golay_z _).mono ?_; rintro e w' ⟨rfl, rfl⟩) | (go_at_call 64; refine H.mono ?_; rintro e w1 ⟨g', v', rfl, happ⟩; obtain ⟨n', cap', rfl⟩ := happ.buf.shape; obtain ⟨c10, f10⟩ := h.dst.cells_append happ))
  go_ret
  exact ⟨rfl, g', _, Wrote.of_append h.dst happ⟩

set_option maxRecDepth 100000 in
set_option maxHeartbeats 4000000 in
theorem dir_Z (h : St w b bt g v out C wl ex lc A nm off) (hO : OkTime nm off A) (hl : out.length ≤ 400000) :
    Calls Tryz.prog 52 #[.int .u8 90, .int .u8 0, .pointer (some ⟨b, 0, none⟩), .pointer (some ⟨bt, 0, none⟩)] w (WrotePost w b g (out ++ layText A nm off [.el .mst])) := by
  have hcg := h.cg
  have hc1 := h.c1
  have hbd := layText_bd hO [.el .mst]
  simp only [List.length_cons, List.length_nil] at hbd
  have H := AppendFormat_any h.tm hO [.el .mst] ⟨okAtoms_all _ (by decide), by simp [no002, List.drop]⟩ (by decide) h.x v g out (by omega) h.dst.buf (by rw [List.length_append]; omega) ⟨#[77, 83, 84]⟩ rfl
  generalize layText A nm off [.el .mst] = tx at *
  obtain ⟨c0, f0, c1, c2, c3⟩ := h.cells
  go_enter Tryz.func52, Tryz.ntmps52
  go_wp2_with (first | (go_at_call 74; refine (golay_Z _).mono ?_; rintro e w' ⟨rfl, rfl⟩) | (go_at_call 64; refine H.mono ?_; rintro e w1 ⟨g', v', rfl, happ⟩; obtain ⟨n', cap', rfl⟩ := happ.buf.shape; obtain ⟨c10, f10⟩ := h.dst.cells_append happ))
  go_ret
  exact ⟨rfl, g', _, Wrote.of_append h.dst happ⟩

set_option maxRecDepth 100000 in
set_option maxHeartbeats 4000000 in
theorem dir_pc (h : St w b bt g v out C wl ex lc A nm off) (hO : OkTime nm off A) (hl : out.length ≤ 400000) :
    Calls Tryz.prog 52 #[.int .u8 37, .int .u8 0, .pointer (some ⟨b, 0, none⟩), .pointer (some ⟨bt, 0, none⟩)] w (WrotePost w b g (out ++ layText A nm off [.ch 37])) := by
  have hcg := h.cg
  have hc1 := h.c1
  have hbd := layText_bd hO [.ch 37]
  simp only [List.length_cons, List.length_nil] at hbd
  have H := AppendFormat_any h.tm hO [.ch 37] ⟨okAtoms_all _ (by decide), by simp [no002, List.drop]⟩ (by decide) h.x v g out (by omega) h.dst.buf (by rw [List.length_append]; omega) ⟨#[37]⟩ rfl
  generalize layText A nm off [.ch 37] = tx at *
  obtain ⟨c0, f0, c1, c2, c3⟩ := h.cells
  go_enter Tryz.func52, Tryz.ntmps52
  go_wp2_with (first | (go_at_call 74; refine (golay_pc _).mono ?_; rintro e w' ⟨rfl, rfl⟩) | (go_at_call 64; refine H.mono ?_; rintro e w1 ⟨g', v', rfl, happ⟩; obtain ⟨n', cap', rfl⟩ := happ.buf.shape; obtain ⟨c10, f10⟩ := h.dst.cells_append happ))
  go_ret
  exact ⟨rfl, g', _, Wrote.of_append h.dst happ⟩

set_option maxRecDepth 100000 in
set_option maxHeartbeats 4000000 in
theorem dir_y (h : St w b bt g v out C wl ex lc A nm off) (hO : OkTime nm off A) (hl : out.length ≤ 400000) :
    Calls Tryz.prog 52 #[.int .u8 121, .int .u8 0, .pointer (some ⟨b, 0, none⟩), .pointer (some ⟨bt, 0, none⟩)] w (WrotePost w b g (out ++ layText A nm off [.el .z6])) := by
  have hcg := h.cg
  have hc1 := h.c1
  have hbd := layText_bd hO [.el .z6]
  simp only [List.length_cons, List.length_nil] at hbd
  have H := AppendFormat_any h.tm hO [.el .z6] ⟨okAtoms_all _ (by decide), by simp [no002, List.drop]⟩ (by decide) h.x v g out (by omega) h.dst.buf (by rw [List.length_append]; omega) ⟨#[48, 54]⟩ rfl
  generalize layText A nm off [.el .z6] = tx at *
  obtain ⟨c0, f0, c1, c2, c3⟩ := h.cells
  go_enter Tryz.func52, Tryz.ntmps52
  go_wp2_with (first | (go_at_call 64; refine H.mono ?_; rintro e w1 ⟨g', v', rfl, happ⟩; obtain ⟨n', cap', rfl⟩ := happ.buf.shape; obtain ⟨c10, f10⟩ := h.dst.cells_append happ))
  go_ret
  exact ⟨rfl, g', _, Wrote.of_append h.dst happ⟩

set_option maxRecDepth 100000 in
set_option maxHeartbeats 4000000 in
theorem dir_Y (h : St w b bt g v out C wl ex lc A nm off) (hO : OkTime nm off A) (hl : out.length ≤ 400000) :
    Calls Tryz.prog 52 #[.int .u8 89, .int .u8 0, .pointer (some ⟨b, 0, none⟩), .pointer (some ⟨bt, 0, none⟩)] w (WrotePost w b g (out ++ layText A nm off [.el .y4])) := by
  have hcg := h.cg
  have hc1 := h.c1
  have hbd := layText_bd hO [.el .y4]
  simp only [List.length_cons, List.length_nil] at hbd
  have H := AppendFormat_any h.tm hO [.el .y4] ⟨okAtoms_all _ (by decide), by simp [no002, List.drop]⟩ (by decide) h.x v g out (by omega) h.dst.buf (by rw [List.length_append]; omega) ⟨#[50, 48, 48, 54]⟩ rfl
  generalize layText A nm off [.el .y4] = tx at *
  obtain ⟨c0, f0, c1, c2, c3⟩ := h.cells
  go_enter Tryz.func52, Tryz.ntmps52
  go_wp2_with (first | (go_at_call 64; refine H.mono ?_; rintro e w1 ⟨g', v', rfl, happ⟩; obtain ⟨n', cap', rfl⟩ := happ.buf.shape; obtain ⟨c10, f10⟩ := h.dst.cells_append happ))
  go_ret
  exact ⟨rfl, g', _, Wrote.of_append h.dst happ⟩

set_option maxRecDepth 100000 in
set_option maxHeartbeats 4000000 in
theorem dir_j (h : St w b bt g v out C wl ex lc A nm off) (hO : OkTime nm off A) (hl : out.length ≤ 400000) :
    Calls Tryz.prog 52 #[.int .u8 106, .int .u8 0, .pointer (some ⟨b, 0, none⟩), .pointer (some ⟨bt, 0, none⟩)] w (WrotePost w b g (out ++ layText A nm off [.el .z002])) := by
  have hcg := h.cg
  have hc1 := h.c1
  have hbd := layText_bd hO [.el .z002]
  simp only [List.length_cons, List.length_nil] at hbd
  have H := AppendFormat_any h.tm hO [.el .z002] ⟨okAtoms_all _ (by decide), by simp [no002, List.drop]⟩ (by decide) h.x v g out (by omega) h.dst.buf (by rw [List.length_append]; omega) ⟨#[48, 48, 50]⟩ rfl
  generalize layText A nm off [.el .z002] = tx at *
  obtain ⟨c0, f0, c1, c2, c3⟩ := h.cells
  go_enter Tryz.func52, Tryz.ntmps52
  go_wp2_with (first | (go_at_call 64; refine H.mono ?_; rintro e w1 ⟨g', v', rfl, happ⟩; obtain ⟨n', cap', rfl⟩ := happ.buf.shape; obtain ⟨c10, f10⟩ := h.dst.cells_append happ))
  go_ret
  exact ⟨rfl, g', _, Wrote.of_append h.dst happ⟩
end
end Go.Proofs.YtkcgngpoegglnaaGreatDoor
