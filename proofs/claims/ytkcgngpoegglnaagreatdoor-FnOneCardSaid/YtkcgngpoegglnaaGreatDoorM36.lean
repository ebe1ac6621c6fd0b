/- The second package: the directives of the ISO year; every directive. -/
import Derived.Test.YtkcgngpoegglnaaGreatDoorM33
import Derived.Test.YtkcgngpoegglnaaGreatDoorM22
import Derived.Test.YtkcgngpoegglnaaGreatDoorM34
import Derived.Test.YtkcgngpoegglnaaGreatDoorM35
namespace Go.Proofs.YtkcgngpoegglnaaGreatDoor
open Go Go.RowKit
set_option linter.unusedVariables false
set_option linter.unusedSimpArgs false

theorem isoY_bd (y k : Int) (h0 : 1 ≤ y) (h1 : y ≤ 9999) (k0 : 1 ≤ k) (k1 : k ≤ 365 + lpY y) : 1 ≤ isoY y k ∧ isoY y k ≤ 9999 := by
  have hw : wdF y k = (dbY y + k) % 7 := rfl
  unfold isoY isoWeek0
  generalize wdF y k = wd at *
  by_cases c0 : (k - ((wd + 6) % 7 + 1) + 10) / 7 < 1
  · rw [if_pos c0]
    by_cases e : y = 1
    · subst e
      have : dbY 1 = 0 := by decide
      omega
    · omega
  · rw [if_neg c0]
    by_cases e : y = 9999
    · subst e
      have e1 : dbY 9999 = 3651694 := by decide
      have e2 : weeksF 9999 = 52 := by decide
      have e3 : lpY 9999 = 0 := by decide
      rw [e2, if_neg (by omega)]
      omega
    · split <;> omega

set_option maxRecDepth 100000 in
theorem year69_any (y : Int) (w : World) (h0 : 1 ≤ y) (h1 : y ≤ 9999) : Calls Tryz.prog 69 #[.int .i64 y] w (MomentPost w 0 (absF y 1 1 * 86400) utcS 0) := by
  have U := absF_bd y 1 1 h0 h1 (by omega) (by omega) (by omega) (by omega)
  have D := @date_utc y 1 1 0 0 0 0
  go_enter Tryz.func69, Tryz.ntmps69
  go_wp2_with (first | (go_at_call 34; refine (utc_any _).mono ?_; rintro e w' ⟨rfl, rfl⟩) | (go_at_call 36; refine (D _ _ h0 h1 (by omega) (by omega) (by omega) (by omega) (by omega) (by omega) (by omega) (by omega) (by omega) (by omega) (by omega) (by omega) (by go_simp) (by go_simp)).mono ?_; rintro e w2 ⟨rfl, hb⟩; obtain ⟨hc, hf⟩ := bcell hb))
  have e0 : absF y 1 1 * 86400 + (0 * 3600 + 0 * 60 + 0) - 0 - 9223371966606163200 = absF y 1 1 * 86400 - 9223371966606163200 := by omega
  have hS : absF y 1 1 * 86400 / 86400 = absF y 1 1 := by omega
  have k0 : w2.cell? ⟨w.heap.size, 0, none⟩ = some (.int .u64 0) := (hc _ _ (by simp; omega)).trans (by go_simp)
  have k1 : w2.cell? ⟨w.heap.size, 1, none⟩ = some (.int .i64 0) := (hc _ _ (by simp; omega)).trans (by go_simp)
  have k2 : w2.cell? ⟨w.heap.size, 2, none⟩ = some (.pointer none) := (hc _ _ (by simp; omega)).trans (by go_simp)
  refine bodyPost_ret (v := .agg #[.int .u64 0, .int .i64 (absF y 1 1 * 86400 - 9223371966606163200), .pointer none]) (by simp [results, Tryz.results69, go_sem, k0, k1, k2]) rfl ⟨_, _, rfl, ?_, ?_⟩
  · refine ((Below.setCell ?_ (by simp) _).setCell (by simp) _).setCell (by simp) _
    refine Below.trans ?_ (hb.mono (by simp; omega))
    repeat (first | exact Below.refl _ _ | refine Below.alloc ?_ (by simp <;> omega) _)
  · exact ⟨by omega, by omega, by omega, by omega, by omega, by omega, by omega, .inl ⟨rfl, rfl, rfl⟩, Nat.le_refl _, by rw [hS]; unfold InDays; omega, by rw [hS]; omega⟩

theorem okTime_year (y : Int) (h0 : 1 ≤ y) (h1 : y ≤ 9999) : OkTime utcS 0 (absF y 1 1 * 86400) := by
  have U := absF_bd y 1 1 h0 h1 (by omega) (by omega) (by omega) (by omega)
  have hS : absF y 1 1 * 86400 / 86400 = absF y 1 1 := by omega
  have hY := (of_date y 1 1 (by omega) (by omega) (by omega) (by have := lenM_bd y 1; omega)).1
  exact ⟨by rw [hS]; unfold InDays; omega, by omega, by omega, by rw [hS]; omega, by rw [hS, hY]; omega, by rw [hS, hY]; omega, ⟨85, [84, 67], rfl, by decide⟩, by omega, by omega, by omega⟩

theorem okTime_of {T : STime} (h : RightT T) : OkTime T.nm T.off (absT T) := by
  have U := absF_bd T.y T.m T.d h.y0 h.y1 h.m0 h.m1 h.d0 h.dd
  have N := nums_of h
  have hS : absT T / 86400 = absF T.y T.m T.d := by
    have := h.h0; have := h.h1; have := h.n0; have := h.n1; have := h.s0; have := h.s1
    unfold absT; omega
  have hA : 0 ≤ absT T ∧ absT T < 18446744073709551616 := by omega
  have hy0 := h.y0
  have hy1 := h.y1
  have hz0 := h.z0
  have hz1 := h.z1
  have ho0 := h.o0
  have ho1 := h.o1
  refine ⟨by rw [hS]; unfold InDays; omega, hA.1, hA.2, by rw [hS]; omega, by rw [N.y]; omega, by rw [N.y]; omega, ?_, h.o2, by omega, by omega⟩
  have e := bs_of T.nm
  have hl : T.nm.data.toList.length = T.nm.size := rfl
  cases hx : T.nm.data.toList with
  | nil => rw [hx] at hl; simp at hl; omega
  | cons c q => exact ⟨c, q, by rw [e, hx], by rw [hx] at hl; simp at hl; omega⟩

set_option maxRecDepth 100000 in
set_option maxHeartbeats 4000000 in
theorem dir_g {w : World} {b bt g C : Nat} {v : Value} {out : List UInt8} {wl ex : Int} {lc : Option Addr} {A : Int} {nm : ByteArray} {off : Int} (h : St w b bt g v out C wl ex lc A nm off) (hl : out.length ≤ 400000)
    (hy0 : 1 ≤ yearF (thuF (A / 86400))) (hy1 : yearF (thuF (A / 86400)) ≤ 9999) :
    Calls Tryz.prog 52 #[.int .u8 103, .int .u8 0, .pointer (some ⟨b, 0, none⟩), .pointer (some ⟨bt, 0, none⟩)] w (WrotePost w b g (out ++ d2 (yearF (thuF (A / 86400)) % 100))) := by
  have hcg := h.cg
  have hc1 := h.c1
  have H := iso_of h.tm
  generalize yearF (thuF (A / 86400)) = y at *
  have U := absF_bd y 1 1 hy0 hy1 (by omega) (by omega) (by omega) (by omega)
  have hS : absF y 1 1 * 86400 / 86400 = absF y 1 1 := by omega
  have hY := (of_date y 1 1 (by omega) (by omega) (by omega) (by have := lenM_bd y 1; omega)).1
  have hO := okTime_year y hy0 hy1
  have htx : layText (absF y 1 1 * 86400) utcS 0 [.el .z6] = d2 (y % 100) := by
    simp only [layText, Atom.text, El.text, List.flatMap_cons, List.flatMap_nil, List.append_nil, hS, hY]
  have hd2 : (d2 (y % 100)).length = 2 := rfl
  have K := fun (w1 : World) (ex1 : Int) (lc1 : Option Addr) (C1 : Nat) (hT : TimeAt w1 C1 0 ex1 lc1 (absF y 1 1 * 86400) utcS 0) (hx : Std0x w1) (hB : Buf w1 g v out) => AppendFormat_any hT hO [.el .z6] ⟨okAtoms_all _ (by decide), by simp [no002, List.drop]⟩ (by decide) hx v g out (by omega) hB (by rw [htx, List.length_append, hd2]; omega) ⟨#[48, 54]⟩ rfl
  rw [htx] at K
  have Y := fun w => year69_any y w hy0 hy1
  generalize absF y 1 1 * 86400 = A1 at *
  generalize d2 (y % 100) = tx at *
  clear hS hY hO htx U hd2
  obtain ⟨c0, f0, c1, c2, c3⟩ := h.cells
  go_enter Tryz.func52, Tryz.ntmps52
  go_wp2_with (first | (go_at_call 68; refine H.mono ?_; rintro e w0 ⟨rfl, hb0⟩; have S0 := Lib.hid (h.below hb0); have D := Lib.hid (S0.out.drew); obtain ⟨c00, f00, c01, c02, c03⟩ := S0.out.cells))
  go_region_law (first | (go_simp; go_at_call 69; refine (Y _).mono ?_; rintro e w1 ⟨ex1, lc1, rfl, hb1, hT1⟩; have S1 := Lib.hid (D.out.below hb1); obtain ⟨c10, f10, c11, c12, c13⟩ := S1.out.cells; dsimp only) | (go_simp; go_at_call 64; refine (K w1 ex1 lc1 _ hT1 S1.out.x S1.out.dst.buf).mono ?_; rintro e w2 ⟨g', v', rfl, happ⟩; obtain ⟨n', cap', rfl⟩ := happ.buf.shape; obtain ⟨c20, f20⟩ := S1.out.dst.cells_append happ; dsimp only))
  all_goals
    go_wp2
    go_ret
    exact ⟨rfl, g', _, ((Wrote.of_append S1.out.dst happ).pre ((below_drew w0).trans hb1)).pre hb0⟩

set_option maxRecDepth 100000 in
set_option maxHeartbeats 4000000 in
theorem dir_G {w : World} {b bt g C : Nat} {v : Value} {out : List UInt8} {wl ex : Int} {lc : Option Addr} {A : Int} {nm : ByteArray} {off : Int} (h : St w b bt g v out C wl ex lc A nm off) (hl : out.length ≤ 400000)
    (hy0 : 1 ≤ yearF (thuF (A / 86400))) (hy1 : yearF (thuF (A / 86400)) ≤ 9999) :
    Calls Tryz.prog 52 #[.int .u8 71, .int .u8 0, .pointer (some ⟨b, 0, none⟩), .pointer (some ⟨bt, 0, none⟩)] w (WrotePost w b g (out ++ d4 (yearF (thuF (A / 86400))))) := by
  have hcg := h.cg
  have hc1 := h.c1
  have H := iso_of h.tm
  generalize yearF (thuF (A / 86400)) = y at *
  have U := absF_bd y 1 1 hy0 hy1 (by omega) (by omega) (by omega) (by omega)
  have hS : absF y 1 1 * 86400 / 86400 = absF y 1 1 := by omega
  have hY := (of_date y 1 1 (by omega) (by omega) (by omega) (by have := lenM_bd y 1; omega)).1
  have hO := okTime_year y hy0 hy1
  have htx : layText (absF y 1 1 * 86400) utcS 0 [.el .y4] = d4 y := by
    simp only [layText, Atom.text, El.text, List.flatMap_cons, List.flatMap_nil, List.append_nil, hS, hY]
  have hd2 : (d4 y).length = 4 := rfl
  have K := fun (w1 : World) (ex1 : Int) (lc1 : Option Addr) (C1 : Nat) (hT : TimeAt w1 C1 0 ex1 lc1 (absF y 1 1 * 86400) utcS 0) (hx : Std0x w1) (hB : Buf w1 g v out) => AppendFormat_any hT hO [.el .y4] ⟨okAtoms_all _ (by decide), by simp [no002, List.drop]⟩ (by decide) hx v g out (by omega) hB (by rw [htx, List.length_append, hd2]; omega) ⟨#[50, 48, 48, 54]⟩ rfl
  rw [htx] at K
  have Y := fun w => year69_any y w hy0 hy1
  generalize absF y 1 1 * 86400 = A1 at *
  generalize d4 y = tx at *
  clear hS hY hO htx U hd2
  obtain ⟨c0, f0, c1, c2, c3⟩ := h.cells
  go_enter Tryz.func52, Tryz.ntmps52
  go_wp2_with (first | (go_at_call 68; refine H.mono ?_; rintro e w0 ⟨rfl, hb0⟩; have S0 := Lib.hid (h.below hb0); have D := Lib.hid (S0.out.drew); obtain ⟨c00, f00, c01, c02, c03⟩ := S0.out.cells))
  go_region_law (first | (go_simp; go_at_call 69; refine (Y _).mono ?_; rintro e w1 ⟨ex1, lc1, rfl, hb1, hT1⟩; have S1 := Lib.hid (D.out.below hb1); obtain ⟨c10, f10, c11, c12, c13⟩ := S1.out.cells; dsimp only) | (go_simp; go_at_call 64; refine (K w1 ex1 lc1 _ hT1 S1.out.x S1.out.dst.buf).mono ?_; rintro e w2 ⟨g', v', rfl, happ⟩; obtain ⟨n', cap', rfl⟩ := happ.buf.shape; obtain ⟨c20, f20⟩ := S1.out.dst.cells_append happ; dsimp only))
  all_goals
    go_wp2
    go_ret
    exact ⟨rfl, g', _, ((Wrote.of_append S1.out.dst happ).pre ((below_drew w0).trans hb1)).pre hb0⟩
end Go.Proofs.YtkcgngpoegglnaaGreatDoor
