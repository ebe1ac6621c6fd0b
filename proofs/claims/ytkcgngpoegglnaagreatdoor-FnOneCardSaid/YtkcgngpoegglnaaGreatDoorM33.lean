/- The second package: the closure that writes a directive: A a B b h. · The second package: the closure that writes a directive: m d H M S e. -/
import Derived.Test.YtkcgngpoegglnaaGreatDoorM17
/- The second package: the closure that writes a directive: A a B b h. -/
section
namespace Go.Proofs.YtkcgngpoegglnaaGreatDoor
open Go Go.RowKit
set_option linter.unusedVariables false
set_option linter.unusedSimpArgs false

set_option maxRecDepth 100000 in
set_option maxHeartbeats 4000000 in
theorem dir_A {w : World} {b bt g C : Nat} {v : Value} {out : List UInt8} {wl ex : Int} {lc : Option Addr} {A : Int} {nm : ByteArray} {off : Int} (h : St w b bt g v out C wl ex lc A nm off) (hl : out.length ≤ 400000) :
    Calls Tryz.prog 52 #[.int .u8 65, .int .u8 0, .pointer (some ⟨b, 0, none⟩), .pointer (some ⟨bt, 0, none⟩)] w (WrotePost w b g (out ++ dayName (((A / 86400) + 3) % 7))) := by
  have hw : 0 ≤ ((A / 86400) + 3) % 7 ∧ ((A / 86400) + 3) % 7 ≤ 6 := by omega
  have hn := dayName_len9 _ hw.1 hw.2
  have N := fun w => dayString_any _ w hw.1 hw.2
  generalize dayName (((A / 86400) + 3) % 7) = mn at *
  obtain ⟨c0, f0, c1, c2, c3⟩ := h.cells
  have D := h.drew
  go_enter Tryz.func52, Tryz.ntmps52
  go_wp2
  go_region_law (first | (go_simp; go_at_call 53; refine (weekday_of D.tm).mono ?_; rintro e w1 ⟨rfl, hb1⟩; have S1 := Lib.hid (D.below hb1); obtain ⟨c10, f10, c11, c12, c13⟩ := S1.out.cells; dsimp only) | (go_simp; go_at_call 54; refine (N w1).mono ?_; rintro e w2 ⟨rfl, hb2⟩; have S2 := Lib.hid (S1.out.below hb2); obtain ⟨c20, f20, c21, c22, c23⟩ := S2.out.cells; dsimp only) | (refine step_append_buf (y := .string (bs (mn))) (news := mn) rfl _ _ 9 rfl (by go_simp) (by go_simp) S2.out.dst.buf (bytesIn_bs _ (mn)) (by omega) ?_; intro g' n' cap' w3 happ; obtain ⟨c30, f30⟩ := S2.out.dst.cells_append happ))
  all_goals
    go_wp2
    go_ret
    exact ⟨rfl, g', _, (Wrote.of_append S2.out.dst happ).pre (((below_drew w).trans hb1).trans (hb2.mono hb1.size))⟩

set_option maxRecDepth 100000 in
set_option maxHeartbeats 4000000 in
theorem dir_a {w : World} {b bt g C : Nat} {v : Value} {out : List UInt8} {wl ex : Int} {lc : Option Addr} {A : Int} {nm : ByteArray} {off : Int} (h : St w b bt g v out C wl ex lc A nm off) (hl : out.length ≤ 400000) :
    Calls Tryz.prog 52 #[.int .u8 97, .int .u8 0, .pointer (some ⟨b, 0, none⟩), .pointer (some ⟨bt, 0, none⟩)] w (WrotePost w b g (out ++ (dayName (((A / 86400) + 3) % 7)).take 3)) := by
  have hw : 0 ≤ ((A / 86400) + 3) % 7 ∧ ((A / 86400) + 3) % 7 ≤ 6 := by omega
  have hn := dayName_len9 _ hw.1 hw.2
  have N := fun w => dayString_any _ w hw.1 hw.2
  generalize dayName (((A / 86400) + 3) % 7) = mn at *
  have hsz : 3 ≤ (bs mn).size := by rw [bs_size]; exact hn.1
  have hszI : (3 : Int) ≤ ((bs mn).size : Int) := by omega
  have hex : (bs mn).extract 0 3 = bs (mn.take 3) := bs_extract mn 0 3
  have htk : (mn.take 3).length ≤ 9 := by simp; omega
  obtain ⟨c0, f0, c1, c2, c3⟩ := h.cells
  have D := h.drew
  go_enter Tryz.func52, Tryz.ntmps52
  go_wp2
  go_region_law (first | (go_simp; go_at_call 53; refine (weekday_of D.tm).mono ?_; rintro e w1 ⟨rfl, hb1⟩; have S1 := Lib.hid (D.below hb1); obtain ⟨c10, f10, c11, c12, c13⟩ := S1.out.cells; dsimp only) | (go_simp; go_at_call 54; refine (N w1).mono ?_; rintro e w2 ⟨rfl, hb2⟩; have S2 := Lib.hid (S1.out.below hb2); obtain ⟨c20, f20, c21, c22, c23⟩ := S2.out.cells; dsimp only) | (refine step_append_buf (y := .string (bs (mn.take 3))) (news := mn.take 3) rfl _ _ 9 rfl (by go_simp) (by go_simp) S2.out.dst.buf (bytesIn_bs _ (mn.take 3)) (by omega) ?_; intro g' n' cap' w3 happ; obtain ⟨c30, f30⟩ := S2.out.dst.cells_append happ))
  all_goals
    go_wp2
    go_ret
    exact ⟨rfl, g', _, (Wrote.of_append S2.out.dst happ).pre (((below_drew w).trans hb1).trans (hb2.mono hb1.size))⟩

set_option maxRecDepth 100000 in
set_option maxHeartbeats 4000000 in
theorem dir_B {w : World} {b bt g C : Nat} {v : Value} {out : List UInt8} {wl ex : Int} {lc : Option Addr} {A : Int} {nm : ByteArray} {off : Int} (h : St w b bt g v out C wl ex lc A nm off) (hl : out.length ≤ 400000) :
    Calls Tryz.prog 52 #[.int .u8 66, .int .u8 0, .pointer (some ⟨b, 0, none⟩), .pointer (some ⟨bt, 0, none⟩)] w (WrotePost w b g (out ++ monthName (monthF (A / 86400)))) := by
  have hw : 1 ≤ monthF (A / 86400) ∧ monthF (A / 86400) ≤ 12 := monthF_bd9 (A / 86400)
  have hn := monthName_len9 _ hw.1 hw.2
  have N := fun w => monthString_any _ w hw.1 hw.2
  generalize monthName (monthF (A / 86400)) = mn at *
  obtain ⟨c0, f0, c1, c2, c3⟩ := h.cells
  have D := h.drew
  go_enter Tryz.func52, Tryz.ntmps52
  go_wp2
  go_region_law (first | (go_simp; go_at_call 55; refine (month_of D.tm).mono ?_; rintro e w1 ⟨rfl, hb1⟩; have S1 := Lib.hid (D.below hb1); obtain ⟨c10, f10, c11, c12, c13⟩ := S1.out.cells; dsimp only) | (go_simp; go_at_call 56; refine (N w1).mono ?_; rintro e w2 ⟨rfl, hb2⟩; have S2 := Lib.hid (S1.out.below hb2); obtain ⟨c20, f20, c21, c22, c23⟩ := S2.out.cells; dsimp only) | (refine step_append_buf (y := .string (bs (mn))) (news := mn) rfl _ _ 9 rfl (by go_simp) (by go_simp) S2.out.dst.buf (bytesIn_bs _ (mn)) (by omega) ?_; intro g' n' cap' w3 happ; obtain ⟨c30, f30⟩ := S2.out.dst.cells_append happ))
  all_goals
    go_wp2
    go_ret
    exact ⟨rfl, g', _, (Wrote.of_append S2.out.dst happ).pre (((below_drew w).trans hb1).trans (hb2.mono hb1.size))⟩

set_option maxRecDepth 100000 in
set_option maxHeartbeats 4000000 in
theorem dir_b {w : World} {b bt g C : Nat} {v : Value} {out : List UInt8} {wl ex : Int} {lc : Option Addr} {A : Int} {nm : ByteArray} {off : Int} (h : St w b bt g v out C wl ex lc A nm off) (hl : out.length ≤ 400000) :
    Calls Tryz.prog 52 #[.int .u8 98, .int .u8 0, .pointer (some ⟨b, 0, none⟩), .pointer (some ⟨bt, 0, none⟩)] w (WrotePost w b g (out ++ (monthName (monthF (A / 86400))).take 3)) := by
  have hw : 1 ≤ monthF (A / 86400) ∧ monthF (A / 86400) ≤ 12 := monthF_bd9 (A / 86400)
  have hn := monthName_len9 _ hw.1 hw.2
  have N := fun w => monthString_any _ w hw.1 hw.2
  generalize monthName (monthF (A / 86400)) = mn at *
  have hsz : 3 ≤ (bs mn).size := by rw [bs_size]; exact hn.1
  have hszI : (3 : Int) ≤ ((bs mn).size : Int) := by omega
  have hex : (bs mn).extract 0 3 = bs (mn.take 3) := bs_extract mn 0 3
  have htk : (mn.take 3).length ≤ 9 := by simp; omega
  obtain ⟨c0, f0, c1, c2, c3⟩ := h.cells
  have D := h.drew
  go_enter Tryz.func52, Tryz.ntmps52
  go_wp2
  go_region_law (first | (go_simp; go_at_call 55; refine (month_of D.tm).mono ?_; rintro e w1 ⟨rfl, hb1⟩; have S1 := Lib.hid (D.below hb1); obtain ⟨c10, f10, c11, c12, c13⟩ := S1.out.cells; dsimp only) | (go_simp; go_at_call 56; refine (N w1).mono ?_; rintro e w2 ⟨rfl, hb2⟩; have S2 := Lib.hid (S1.out.below hb2); obtain ⟨c20, f20, c21, c22, c23⟩ := S2.out.cells; dsimp only) | (refine step_append_buf (y := .string (bs (mn.take 3))) (news := mn.take 3) rfl _ _ 9 rfl (by go_simp) (by go_simp) S2.out.dst.buf (bytesIn_bs _ (mn.take 3)) (by omega) ?_; intro g' n' cap' w3 happ; obtain ⟨c30, f30⟩ := S2.out.dst.cells_append happ))
  all_goals
    go_wp2
    go_ret
    exact ⟨rfl, g', _, (Wrote.of_append S2.out.dst happ).pre (((below_drew w).trans hb1).trans (hb2.mono hb1.size))⟩

set_option maxRecDepth 100000 in
set_option maxHeartbeats 4000000 in
theorem dir_h {w : World} {b bt g C : Nat} {v : Value} {out : List UInt8} {wl ex : Int} {lc : Option Addr} {A : Int} {nm : ByteArray} {off : Int} (h : St w b bt g v out C wl ex lc A nm off) (hl : out.length ≤ 400000) :
    Calls Tryz.prog 52 #[.int .u8 104, .int .u8 0, .pointer (some ⟨b, 0, none⟩), .pointer (some ⟨bt, 0, none⟩)] w (WrotePost w b g (out ++ (monthName (monthF (A / 86400))).take 3)) := by
  have hw : 1 ≤ monthF (A / 86400) ∧ monthF (A / 86400) ≤ 12 := monthF_bd9 (A / 86400)
  have hn := monthName_len9 _ hw.1 hw.2
  have N := fun w => monthString_any _ w hw.1 hw.2
  generalize monthName (monthF (A / 86400)) = mn at *
  have hsz : 3 ≤ (bs mn).size := by rw [bs_size]; exact hn.1
  have hszI : (3 : Int) ≤ ((bs mn).size : Int) := by omega
  have hex : (bs mn).extract 0 3 = bs (mn.take 3) := bs_extract mn 0 3
  have htk : (mn.take 3).length ≤ 9 := by simp; omega
  obtain ⟨c0, f0, c1, c2, c3⟩ := h.cells
  have D := h.drew
  go_enter Tryz.func52, Tryz.ntmps52
  go_wp2
  go_region_law (first | (go_simp; go_at_call 55; refine (month_of D.tm).mono ?_; rintro e w1 ⟨rfl, hb1⟩; have S1 := Lib.hid (D.below hb1); obtain ⟨c10, f10, c11, c12, c13⟩ := S1.out.cells; dsimp only) | (go_simp; go_at_call 56; refine (N w1).mono ?_; rintro e w2 ⟨rfl, hb2⟩; have S2 := Lib.hid (S1.out.below hb2); obtain ⟨c20, f20, c21, c22, c23⟩ := S2.out.cells; dsimp only) | (refine step_append_buf (y := .string (bs (mn.take 3))) (news := mn.take 3) rfl _ _ 9 rfl (by go_simp) (by go_simp) S2.out.dst.buf (bytesIn_bs _ (mn.take 3)) (by omega) ?_; intro g' n' cap' w3 happ; obtain ⟨c30, f30⟩ := S2.out.dst.cells_append happ))
  all_goals
    go_wp2
    go_ret
    exact ⟨rfl, g', _, (Wrote.of_append S2.out.dst happ).pre (((below_drew w).trans hb1).trans (hb2.mono hb1.size))⟩

end Go.Proofs.YtkcgngpoegglnaaGreatDoor
end
/- The second package: the closure that writes a directive: m d H M S e. -/
section
namespace Go.Proofs.YtkcgngpoegglnaaGreatDoor
open Go Go.RowKit
set_option linter.unusedVariables false
set_option linter.unusedSimpArgs false

set_option maxRecDepth 100000 in
set_option maxHeartbeats 4000000 in
theorem dir_m {w : World} {b bt g C : Nat} {v : Value} {out : List UInt8} {wl ex : Int} {lc : Option Addr} {A : Int} {nm : ByteArray} {off : Int} (h : St w b bt g v out C wl ex lc A nm off) (hl : out.length ≤ 400000) :
    Calls Tryz.prog 52 #[.int .u8 109, .int .u8 0, .pointer (some ⟨b, 0, none⟩), .pointer (some ⟨bt, 0, none⟩)] w (WrotePost w b g (out ++ d2 (monthF (A / 86400)))) := by
  have hx : 0 ≤ monthF (A / 86400) ∧ monthF (A / 86400) ≤ 99 := by have := monthF_bd9 (A / 86400); omega
  have M := fun (w : World) (hT : TimeAt w C wl ex lc A nm off) => month_of hT
  generalize monthF (A / 86400) = n at *
  unfold d2
  obtain ⟨c0, f0, c1, c2, c3⟩ := h.cells
  have D := h.drew
  · skip
    go_enter Tryz.func52, Tryz.ntmps52
    go_wp2
    go_region_law (first | (go_simp; go_at_call 55; refine (M _ D.tm).mono ?_; rintro e w1 ⟨rfl, hb1⟩; have S1 := Lib.hid (D.below hb1); obtain ⟨c10, f10, c11, c12, c13⟩ := S1.out.cells; dsimp only) | (go_simp; go_at_call 57; refine (appendInt2_zero _ _ _ _ _ S1.out.dst.buf (by omega) (by omega) (by omega)).mono ?_; rintro e w2 ⟨g', v', rfl, happ⟩; obtain ⟨n', cap', rfl⟩ := happ.buf.shape; obtain ⟨c20, f20⟩ := S1.out.dst.cells_append happ; dsimp only))
    all_goals
      go_wp2
      go_ret
      exact ⟨rfl, g', _, (Wrote.of_append S1.out.dst happ).pre ((below_drew w).trans hb1)⟩

set_option maxRecDepth 100000 in
set_option maxHeartbeats 4000000 in
theorem dir_d {w : World} {b bt g C : Nat} {v : Value} {out : List UInt8} {wl ex : Int} {lc : Option Addr} {A : Int} {nm : ByteArray} {off : Int} (h : St w b bt g v out C wl ex lc A nm off) (hl : out.length ≤ 400000) :
    Calls Tryz.prog 52 #[.int .u8 100, .int .u8 0, .pointer (some ⟨b, 0, none⟩), .pointer (some ⟨bt, 0, none⟩)] w (WrotePost w b g (out ++ d2 (dayF (A / 86400)))) := by
  have hx : 0 ≤ dayF (A / 86400) ∧ dayF (A / 86400) ≤ 99 := by have := dayF_bd9 (A / 86400); omega
  have M := fun (w : World) (hT : TimeAt w C wl ex lc A nm off) => day_of hT
  generalize dayF (A / 86400) = n at *
  unfold d2
  obtain ⟨c0, f0, c1, c2, c3⟩ := h.cells
  have D := h.drew
  · skip
    go_enter Tryz.func52, Tryz.ntmps52
    go_wp2
    go_region_law (first | (go_simp; go_at_call 58; refine (M _ D.tm).mono ?_; rintro e w1 ⟨rfl, hb1⟩; have S1 := Lib.hid (D.below hb1); obtain ⟨c10, f10, c11, c12, c13⟩ := S1.out.cells; dsimp only) | (go_simp; go_at_call 57; refine (appendInt2_zero _ _ _ _ _ S1.out.dst.buf (by omega) (by omega) (by omega)).mono ?_; rintro e w2 ⟨g', v', rfl, happ⟩; obtain ⟨n', cap', rfl⟩ := happ.buf.shape; obtain ⟨c20, f20⟩ := S1.out.dst.cells_append happ; dsimp only))
    all_goals
      go_wp2
      go_ret
      exact ⟨rfl, g', _, (Wrote.of_append S1.out.dst happ).pre ((below_drew w).trans hb1)⟩

set_option maxRecDepth 100000 in
set_option maxHeartbeats 4000000 in
theorem dir_H {w : World} {b bt g C : Nat} {v : Value} {out : List UInt8} {wl ex : Int} {lc : Option Addr} {A : Int} {nm : ByteArray} {off : Int} (h : St w b bt g v out C wl ex lc A nm off) (hl : out.length ≤ 400000) :
    Calls Tryz.prog 52 #[.int .u8 72, .int .u8 0, .pointer (some ⟨b, 0, none⟩), .pointer (some ⟨bt, 0, none⟩)] w (WrotePost w b g (out ++ d2 (A % 86400 / 3600))) := by
  have hx : 0 ≤ A % 86400 / 3600 ∧ A % 86400 / 3600 ≤ 99 := by omega
  have M := fun (w : World) (hT : TimeAt w C wl ex lc A nm off) => hour_of hT
  generalize A % 86400 / 3600 = n at *
  unfold d2
  obtain ⟨c0, f0, c1, c2, c3⟩ := h.cells
  have D := h.drew
  · skip
    go_enter Tryz.func52, Tryz.ntmps52
    go_wp2
    go_region_law (first | (go_simp; go_at_call 60; refine (M _ D.tm).mono ?_; rintro e w1 ⟨rfl, hb1⟩; have S1 := Lib.hid (D.below hb1); obtain ⟨c10, f10, c11, c12, c13⟩ := S1.out.cells; dsimp only) | (go_simp; go_at_call 57; refine (appendInt2_zero _ _ _ _ _ S1.out.dst.buf (by omega) (by omega) (by omega)).mono ?_; rintro e w2 ⟨g', v', rfl, happ⟩; obtain ⟨n', cap', rfl⟩ := happ.buf.shape; obtain ⟨c20, f20⟩ := S1.out.dst.cells_append happ; dsimp only))
    all_goals
      go_wp2
      go_ret
      exact ⟨rfl, g', _, (Wrote.of_append S1.out.dst happ).pre ((below_drew w).trans hb1)⟩

set_option maxRecDepth 100000 in
set_option maxHeartbeats 4000000 in
theorem dir_M {w : World} {b bt g C : Nat} {v : Value} {out : List UInt8} {wl ex : Int} {lc : Option Addr} {A : Int} {nm : ByteArray} {off : Int} (h : St w b bt g v out C wl ex lc A nm off) (hl : out.length ≤ 400000) :
    Calls Tryz.prog 52 #[.int .u8 77, .int .u8 0, .pointer (some ⟨b, 0, none⟩), .pointer (some ⟨bt, 0, none⟩)] w (WrotePost w b g (out ++ d2 (A % 3600 / 60))) := by
  have hx : 0 ≤ A % 3600 / 60 ∧ A % 3600 / 60 ≤ 99 := by omega
  have M := fun (w : World) (hT : TimeAt w C wl ex lc A nm off) => minute_of hT
  generalize A % 3600 / 60 = n at *
  unfold d2
  obtain ⟨c0, f0, c1, c2, c3⟩ := h.cells
  have D := h.drew
  · skip
    go_enter Tryz.func52, Tryz.ntmps52
    go_wp2
    go_region_law (first | (go_simp; go_at_call 61; refine (M _ D.tm).mono ?_; rintro e w1 ⟨rfl, hb1⟩; have S1 := Lib.hid (D.below hb1); obtain ⟨c10, f10, c11, c12, c13⟩ := S1.out.cells; dsimp only) | (go_simp; go_at_call 57; refine (appendInt2_zero _ _ _ _ _ S1.out.dst.buf (by omega) (by omega) (by omega)).mono ?_; rintro e w2 ⟨g', v', rfl, happ⟩; obtain ⟨n', cap', rfl⟩ := happ.buf.shape; obtain ⟨c20, f20⟩ := S1.out.dst.cells_append happ; dsimp only))
    all_goals
      go_wp2
      go_ret
      exact ⟨rfl, g', _, (Wrote.of_append S1.out.dst happ).pre ((below_drew w).trans hb1)⟩

set_option maxRecDepth 100000 in
set_option maxHeartbeats 4000000 in
theorem dir_S {w : World} {b bt g C : Nat} {v : Value} {out : List UInt8} {wl ex : Int} {lc : Option Addr} {A : Int} {nm : ByteArray} {off : Int} (h : St w b bt g v out C wl ex lc A nm off) (hl : out.length ≤ 400000) :
    Calls Tryz.prog 52 #[.int .u8 83, .int .u8 0, .pointer (some ⟨b, 0, none⟩), .pointer (some ⟨bt, 0, none⟩)] w (WrotePost w b g (out ++ d2 (A % 60))) := by
  have hx : 0 ≤ A % 60 ∧ A % 60 ≤ 99 := by omega
  have M := fun (w : World) (hT : TimeAt w C wl ex lc A nm off) => second_of hT
  generalize A % 60 = n at *
  unfold d2
  obtain ⟨c0, f0, c1, c2, c3⟩ := h.cells
  have D := h.drew
  · skip
    go_enter Tryz.func52, Tryz.ntmps52
    go_wp2
    go_region_law (first | (go_simp; go_at_call 62; refine (M _ D.tm).mono ?_; rintro e w1 ⟨rfl, hb1⟩; have S1 := Lib.hid (D.below hb1); obtain ⟨c10, f10, c11, c12, c13⟩ := S1.out.cells; dsimp only) | (go_simp; go_at_call 57; refine (appendInt2_zero _ _ _ _ _ S1.out.dst.buf (by omega) (by omega) (by omega)).mono ?_; rintro e w2 ⟨g', v', rfl, happ⟩; obtain ⟨n', cap', rfl⟩ := happ.buf.shape; obtain ⟨c20, f20⟩ := S1.out.dst.cells_append happ; dsimp only))
    all_goals
      go_wp2
      go_ret
      exact ⟨rfl, g', _, (Wrote.of_append S1.out.dst happ).pre ((below_drew w).trans hb1)⟩

set_option maxRecDepth 100000 in
set_option maxHeartbeats 4000000 in
theorem dir_e {w : World} {b bt g C : Nat} {v : Value} {out : List UInt8} {wl ex : Int} {lc : Option Addr} {A : Int} {nm : ByteArray} {off : Int} (h : St w b bt g v out C wl ex lc A nm off) (hl : out.length ≤ 400000) :
    Calls Tryz.prog 52 #[.int .u8 101, .int .u8 0, .pointer (some ⟨b, 0, none⟩), .pointer (some ⟨bt, 0, none⟩)] w (WrotePost w b g (out ++ (if dayF (A / 86400) < 10 then [32, dg (dayF (A / 86400))] else d2 (dayF (A / 86400))))) := by
  have hx : 1 ≤ dayF (A / 86400) ∧ dayF (A / 86400) ≤ 31 := dayF_bd9 (A / 86400)
  have M := fun (w : World) (hT : TimeAt w C wl ex lc A nm off) => day_of hT
  generalize dayF (A / 86400) = n at *
  unfold d2
  obtain ⟨c0, f0, c1, c2, c3⟩ := h.cells
  have D := h.drew
  by_cases hlt : n < 10
  · simp only [hlt, if_true]
    go_enter Tryz.func52, Tryz.ntmps52
    go_wp2
    go_region_law (first | (go_simp; go_at_call 58; refine (M _ D.tm).mono ?_; rintro e w1 ⟨rfl, hb1⟩; have S1 := Lib.hid (D.below hb1); obtain ⟨c10, f10, c11, c12, c13⟩ := S1.out.cells; dsimp only) | (go_simp; go_at_call 57; refine (appendInt2_small _ _ _ _ _ S1.out.dst.buf (by omega) (by omega) (by omega)).mono ?_; rintro e w2 ⟨g', v', rfl, happ⟩; obtain ⟨n', cap', rfl⟩ := happ.buf.shape; obtain ⟨c20, f20⟩ := S1.out.dst.cells_append happ; dsimp only))
    all_goals
      go_wp2
      go_ret
      exact ⟨rfl, g', _, (Wrote.of_append S1.out.dst happ).pre ((below_drew w).trans hb1)⟩
  · simp only [hlt, if_false]
    go_enter Tryz.func52, Tryz.ntmps52
    go_wp2
    go_region_law (first | (go_simp; go_at_call 58; refine (M _ D.tm).mono ?_; rintro e w1 ⟨rfl, hb1⟩; have S1 := Lib.hid (D.below hb1); obtain ⟨c10, f10, c11, c12, c13⟩ := S1.out.cells; dsimp only) | (go_simp; go_at_call 57; refine (appendInt2_big _ _ _ _ _ S1.out.dst.buf (by omega) (by omega) (by omega)).mono ?_; rintro e w2 ⟨g', v', rfl, happ⟩; obtain ⟨n', cap', rfl⟩ := happ.buf.shape; obtain ⟨c20, f20⟩ := S1.out.dst.cells_append happ; dsimp only))
    all_goals
      go_wp2
      go_ret
      exact ⟨rfl, g', _, (Wrote.of_append S1.out.dst happ).pre ((below_drew w).trans hb1)⟩

end Go.Proofs.YtkcgngpoegglnaaGreatDoor
end
