/- The first package: the functions that append a number. -/
import Derived.Test.YtkcgngpoegglnaaGreatDoorM31
namespace Go.Proofs.YtkcgngpoegglnaaGreatDoor
open Go Go.RowKit
set_option linter.unusedVariables false
set_option linter.unusedSimpArgs false

theorem num_lt (n : Int) (h : n < 10) : num3 n = [dg n] := by unfold num3; rw [if_pos h]
theorem num_mid (n : Int) (h : 10 ≤ n) (h2 : n < 100) : num3 n = d2 n := by unfold num3 d2; rw [if_neg (by omega), if_pos h2]
theorem num_big (n : Int) (h : 100 ≤ n) : num3 n = d3 n := by unfold num3 d3; rw [if_neg (by omega), if_neg (by omega)]
theorem d2_lt (n : Int) (h0 : 0 ≤ n) (h : n < 10) : d2 n = [48, dg n] := by
  unfold d2
  rw [show n / 10 = 0 by omega, show n % 10 = n by omega]; rfl
theorem d3_lt (n : Int) (h0 : 0 ≤ n) (h : n < 10) : d3 n = [48, 48, dg n] := by
  unfold d3
  rw [show n / 100 = 0 by omega, show n / 10 % 10 = 0 by omega, show n % 10 = n by omega]; rfl
theorem d3_mid (n : Int) (h0 : 10 ≤ n) (h : n < 100) : d3 n = 48 :: d2 n := by
  unfold d3 d2
  rw [show n / 100 = 0 by omega, show n / 10 % 10 = n / 10 by omega]; rfl

section
variable {w : World} {C : Nat} {wl ex : Int} {lc : Option Addr} {A : Int} {nm : ByteArray} {off : Int} {g : Nat} {v : Value} {out : List UInt8}

set_option maxRecDepth 100000 in
theorem cent_any (h : Env w C wl ex lc A nm off) (hB : Buf w g v out) (hg : C ≤ g) (hl : out.length ≤ 400000) (hy0 : 0 ≤ yearF (A / 86400)) (hy1 : yearF (A / 86400) ≤ 9999) :
    Calls Tryz.prog 178 #[v, .agg #[.int .u64 wl, .int .i64 ex, .pointer lc]] w (AppPost w g (out ++ d2 (yearF (A / 86400) / 100))) := by
  have hlt := hB.lt
  have hC := h.tm.b
  have hc1 := h.c1
  have H := fun o => year_of (h.tm.alloc o)
  generalize yearF (A / 86400) = y at *
  obtain ⟨n, hn⟩ : ∃ n, n = y / 100 := ⟨_, rfl⟩
  have hn0 : 0 ≤ n := by omega
  have hn1 : n ≤ 99 := by omega
  have hy : y / 100 = n := hn.symm
  clear hn
  rw [hy]
  by_cases h10 : n < 10
  · rw [d2_lt n hn0 h10, ← List.singleton_append, ← num_lt n h10]
    go_enter Tryz.func178, Tryz.ntmps178
    go_wp2_with (first | (go_at_call 95; refine (H _).mono ?_; rintro e w1 ⟨rfl, hb⟩; have BB := Lib.hid (((Below.refl w.heap.size w).alloc (Nat.le_refl _) _).trans (hb.mono (by simp))); have E1 := Lib.hid (h.up BB.out); have B1 := Lib.hid (hB.below BB.out hlt); obtain ⟨hc, hf⟩ := bcell hb) | (at_builtin; refine wpList_append_buf rfl _ _ 34 rfl (by go_simp) (by go_simp) (B1.out.alloc _) (bytesIn_new1 _ 48 _ rfl) (by simp; omega) ?_; intro g5 v5 w5 happ5; have E5 := Lib.hid (E1.out.below (((Below.refl C _).alloc (by have := E1.out.tm.b; omega) _).trans (happ5.below hg (by have := B1.out.lt; simp; omega))))) | (go_at_call 186; refine (itoa_any _ _ (by omega) (by omega) (E5.out.tab _ (Below.refl _ _))).mono ?_; rintro e w6 ⟨rfl, hb6⟩) | (at_builtin; refine wpList_append_buf (y := .string (bs (num3 n))) (news := num3 n) rfl _ _ 9 rfl (by go_simp) (by go_simp) (happ5.buf.below hb6 happ5.buf.lt) (bytesIn_bs _ (num3 n)) (by have := num3_len n; simp; omega) ?_; intro g' v' w7 happ))
    go_ret
    have R := ((happ5.pre ((Below.refl _ _).alloc (Nat.le_refl _) _)).trans (happ.pre hb6)).pre BB.out
    rw [List.append_assoc] at R
    exact ⟨g', v', rfl, R⟩
  · rw [← num_mid n (by omega) (by omega)]
    go_enter Tryz.func178, Tryz.ntmps178
    go_wp2_with (first | (go_at_call 95; refine (H _).mono ?_; rintro e w1 ⟨rfl, hb⟩; have BB := Lib.hid (((Below.refl w.heap.size w).alloc (Nat.le_refl _) _).trans (hb.mono (by simp))); have E1 := Lib.hid (h.up BB.out); have B1 := Lib.hid (hB.below BB.out hlt); obtain ⟨hc, hf⟩ := bcell hb) | (go_at_call 186; refine (itoa_any _ _ (by omega) (by omega) (E1.out.tab _ (Below.refl _ _))).mono ?_; rintro e w6 ⟨rfl, hb6⟩) | (at_builtin; refine wpList_append_buf (y := .string (bs (num3 n))) (news := num3 n) rfl _ _ 9 rfl (by go_simp) (by go_simp) (B1.out.below hb6 B1.out.lt) (bytesIn_bs _ (num3 n)) (by have := num3_len n; simp; omega) ?_; intro g' v' w7 happ))
    go_ret
    have R := (happ.pre hb6).pre BB.out
    skip
    exact ⟨g', v', rfl, R⟩

set_option maxRecDepth 100000 in
theorem yday_app (h : Env w C wl ex lc A nm off) (hB : Buf w g v out) (hg : C ≤ g) (hl : out.length ≤ 400000) :
    Calls Tryz.prog 181 #[v, .agg #[.int .u64 wl, .int .i64 ex, .pointer lc]] w (AppPost w g (out ++ d3 (ydayF (A / 86400)))) := by
  have hlt := hB.lt
  have hC := h.tm.b
  have hc1 := h.c1
  have H := fun o => yearDay_of (h.tm.alloc o)
  have hy := ydayF_bd (A / 86400)
  generalize ydayF (A / 86400) = n at *
  have hn0 : 0 ≤ n := by omega
  by_cases h10 : n < 10
  · rw [d3_lt n hn0 h10, show [48, 48, dg n] = [48, 48] ++ [dg n] from rfl, ← num_lt n h10]
    go_enter Tryz.func181, Tryz.ntmps181
    go_wp2_with (first | (go_at_call 73; refine (H _).mono ?_; rintro e w1 ⟨rfl, hb⟩; have BB := Lib.hid (((Below.refl w.heap.size w).alloc (Nat.le_refl _) _).trans (hb.mono (by simp))); have E1 := Lib.hid (h.up BB.out); have B1 := Lib.hid (hB.below BB.out hlt); obtain ⟨hc, hf⟩ := bcell hb) | (at_builtin; refine wpList_append_buf rfl _ _ 34 rfl (by go_simp) (by go_simp) (B1.out.alloc _) (bytesIn_new2 _ 48 48 _ _ rfl rfl) (by simp; omega) ?_; intro g5 v5 w5 happ5; have E5 := Lib.hid (E1.out.below (((Below.refl C _).alloc (by have := E1.out.tm.b; omega) _).trans (happ5.below hg (by have := B1.out.lt; simp; omega))))) | (go_at_call 186; refine (itoa_any _ _ (by omega) (by omega) (E5.out.tab _ (Below.refl _ _))).mono ?_; rintro e w6 ⟨rfl, hb6⟩) | (at_builtin; refine wpList_append_buf (y := .string (bs (num3 n))) (news := num3 n) rfl _ _ 9 rfl (by go_simp) (by go_simp) (happ5.buf.below hb6 happ5.buf.lt) (bytesIn_bs _ (num3 n)) (by have := num3_len n; simp; omega) ?_; intro g' v' w7 happ))
    go_ret
    have R := ((happ5.pre ((Below.refl _ _).alloc (Nat.le_refl _) _)).trans (happ.pre hb6)).pre BB.out
    rw [List.append_assoc] at R
    exact ⟨g', v', rfl, R⟩
  by_cases h100 : n < 100
  · rw [d3_mid n (by omega) h100, ← List.singleton_append, ← num_mid n (by omega) h100]
    go_enter Tryz.func181, Tryz.ntmps181
    go_wp2_with (first | (go_at_call 73; refine (H _).mono ?_; rintro e w1 ⟨rfl, hb⟩; have BB := Lib.hid (((Below.refl w.heap.size w).alloc (Nat.le_refl _) _).trans (hb.mono (by simp))); have E1 := Lib.hid (h.up BB.out); have B1 := Lib.hid (hB.below BB.out hlt); obtain ⟨hc, hf⟩ := bcell hb) | (at_builtin; refine wpList_append_buf rfl _ _ 34 rfl (by go_simp) (by go_simp) (B1.out.alloc _) (bytesIn_new1 _ 48 _ rfl) (by simp; omega) ?_; intro g5 v5 w5 happ5; have E5 := Lib.hid (E1.out.below (((Below.refl C _).alloc (by have := E1.out.tm.b; omega) _).trans (happ5.below hg (by have := B1.out.lt; simp; omega))))) | (go_at_call 186; refine (itoa_any _ _ (by omega) (by omega) (E5.out.tab _ (Below.refl _ _))).mono ?_; rintro e w6 ⟨rfl, hb6⟩) | (at_builtin; refine wpList_append_buf (y := .string (bs (num3 n))) (news := num3 n) rfl _ _ 9 rfl (by go_simp) (by go_simp) (happ5.buf.below hb6 happ5.buf.lt) (bytesIn_bs _ (num3 n)) (by have := num3_len n; simp; omega) ?_; intro g' v' w7 happ))
    go_ret
    have R := ((happ5.pre ((Below.refl _ _).alloc (Nat.le_refl _) _)).trans (happ.pre hb6)).pre BB.out
    rw [List.append_assoc] at R
    exact ⟨g', v', rfl, R⟩
  · rw [← num_big n (by omega)]
    go_enter Tryz.func181, Tryz.ntmps181
    go_wp2_with (first | (go_at_call 73; refine (H _).mono ?_; rintro e w1 ⟨rfl, hb⟩; have BB := Lib.hid (((Below.refl w.heap.size w).alloc (Nat.le_refl _) _).trans (hb.mono (by simp))); have E1 := Lib.hid (h.up BB.out); have B1 := Lib.hid (hB.below BB.out hlt); obtain ⟨hc, hf⟩ := bcell hb) | (go_at_call 186; refine (itoa_any _ _ (by omega) (by omega) (E1.out.tab _ (Below.refl _ _))).mono ?_; rintro e w6 ⟨rfl, hb6⟩) | (at_builtin; refine wpList_append_buf (y := .string (bs (num3 n))) (news := num3 n) rfl _ _ 9 rfl (by go_simp) (by go_simp) (B1.out.below hb6 B1.out.lt) (bytesIn_bs _ (num3 n)) (by have := num3_len n; simp; omega) ?_; intro g' v' w7 happ))
    go_ret
    have R := (happ.pre hb6).pre BB.out
    skip
    exact ⟨g', v', rfl, R⟩

set_option maxRecDepth 100000 in
theorem week_app (h : Env w C wl ex lc A nm off) (hB : Buf w g v out) (hg : C ≤ g) (hl : out.length ≤ 400000) :
    Calls Tryz.prog 183 #[v, .agg #[.int .u64 wl, .int .i64 ex, .pointer lc]] w (AppPost w g (out ++ d2 ((ydayF (thuF (A / 86400)) - 1) / 7 + 1))) := by
  have hlt := hB.lt
  have hC := h.tm.b
  have hc1 := h.c1
  have H := fun o => iso_of (h.tm.alloc o)
  have hy := ydayF_bd (thuF (A / 86400))
  have hx : 0 ≤ (ydayF (thuF (A / 86400)) - 1) / 7 + 1 ∧ (ydayF (thuF (A / 86400)) - 1) / 7 + 1 ≤ 99 := by omega
  generalize (ydayF (thuF (A / 86400)) - 1) / 7 + 1 = n at *
  have hn0 : 0 ≤ n := hx.1
  by_cases h10 : n < 10
  · rw [d2_lt n hn0 h10, ← List.singleton_append, ← num_lt n h10]
    go_enter Tryz.func183, Tryz.ntmps183
    go_wp2_with (first | (go_at_call 68; refine (H _).mono ?_; rintro e w1 ⟨rfl, hb⟩; have BB := Lib.hid (((Below.refl w.heap.size w).alloc (Nat.le_refl _) _).trans (hb.mono (by simp))); have E1 := Lib.hid (h.up BB.out); have B1 := Lib.hid (hB.below BB.out hlt); obtain ⟨hc, hf⟩ := bcell hb) | (at_builtin; refine wpList_append_buf rfl _ _ 34 rfl (by go_simp) (by go_simp) (B1.out.alloc _) (bytesIn_new1 _ 48 _ rfl) (by simp; omega) ?_; intro g5 v5 w5 happ5; have E5 := Lib.hid (E1.out.below (((Below.refl C _).alloc (by have := E1.out.tm.b; omega) _).trans (happ5.below hg (by have := B1.out.lt; simp; omega))))) | (go_at_call 186; refine (itoa_any _ _ (by omega) (by omega) (E5.out.tab _ (Below.refl _ _))).mono ?_; rintro e w6 ⟨rfl, hb6⟩) | (at_builtin; refine wpList_append_buf (y := .string (bs (num3 n))) (news := num3 n) rfl _ _ 9 rfl (by go_simp) (by go_simp) (happ5.buf.below hb6 happ5.buf.lt) (bytesIn_bs _ (num3 n)) (by have := num3_len n; simp; omega) ?_; intro g' v' w7 happ))
    go_ret
    have R := ((happ5.pre ((Below.refl _ _).alloc (Nat.le_refl _) _)).trans (happ.pre hb6)).pre BB.out
    rw [List.append_assoc] at R
    exact ⟨g', v', rfl, R⟩
  · rw [← num_mid n (by omega) (by omega)]
    go_enter Tryz.func183, Tryz.ntmps183
    go_wp2_with (first | (go_at_call 68; refine (H _).mono ?_; rintro e w1 ⟨rfl, hb⟩; have BB := Lib.hid (((Below.refl w.heap.size w).alloc (Nat.le_refl _) _).trans (hb.mono (by simp))); have E1 := Lib.hid (h.up BB.out); have B1 := Lib.hid (hB.below BB.out hlt); obtain ⟨hc, hf⟩ := bcell hb) | (go_at_call 186; refine (itoa_any _ _ (by omega) (by omega) (E1.out.tab _ (Below.refl _ _))).mono ?_; rintro e w6 ⟨rfl, hb6⟩) | (at_builtin; refine wpList_append_buf (y := .string (bs (num3 n))) (news := num3 n) rfl _ _ 9 rfl (by go_simp) (by go_simp) (B1.out.below hb6 B1.out.lt) (bytesIn_bs _ (num3 n)) (by have := num3_len n; simp; omega) ?_; intro g' v' w7 happ))
    go_ret
    have R := (happ.pre hb6).pre BB.out
    skip
    exact ⟨g', v', rfl, R⟩

set_option maxRecDepth 100000 in
theorem wk_sun (h : Env w C wl ex lc A nm off) (hB : Buf w g v out) (hg : C ≤ g) (hl : out.length ≤ 400000) :
    Calls Tryz.prog 223 #[.bool true, v, .agg #[.int .u64 wl, .int .i64 ex, .pointer lc]] w (AppPost w g (out ++ d2 ((ydayF (A / 86400) + 6 - (A / 86400 + 3) % 7) / 7))) := by
  have hlt := hB.lt
  have hC := h.tm.b
  have hc1 := h.c1
  have hw : 0 ≤ (A / 86400 + 3) % 7 ∧ (A / 86400 + 3) % 7 ≤ 6 := by omega
  have hy := ydayF_bd (A / 86400)
  have H := fun o => weekday_of (h.tm.alloc o)
  have H2 := fun w' (h' : Env w' C wl ex lc A nm off) => yearDay_of h'.tm
  generalize (A / 86400 + 3) % 7 = wd at *
  generalize ydayF (A / 86400) = yd at *
  · skip
    obtain ⟨n, hn⟩ : ∃ n, n = (yd + (6 - wd)) / 7 := ⟨_, rfl⟩
    have hn0 : 0 ≤ n := by omega
    have hn1 : n ≤ 99 := by omega
    have hy2 : (yd + (6 - wd)) / 7 = n := hn.symm
    have ht : (yd + 6 - wd) / 7 = n := by omega
    rw [ht]
    clear hn ht
    by_cases h10 : n < 10
    · rw [d2_lt n hn0 h10, ← List.singleton_append, ← num_lt n h10]
      go_enter Tryz.func223, Tryz.ntmps223
      go_wp2_with (first | (go_at_call 53; refine (H _).mono ?_; rintro e w1 ⟨rfl, hb⟩; have B0 := Lib.hid (((Below.refl w.heap.size w).alloc (Nat.le_refl _) _).trans (hb.mono (by simp))); have E0 := Lib.hid (h.up B0.out); obtain ⟨hc, hf⟩ := bcell hb) | (go_at_call 73; refine (H2 _ E0.out).mono ?_; rintro e w2 ⟨rfl, hb2⟩; have BB := Lib.hid (B0.out.trans (hb2.mono B0.out.size)); have E1 := Lib.hid (h.up BB.out); have B1 := Lib.hid (hB.below BB.out hlt)) | (at_builtin; refine wpList_append_buf rfl _ _ 34 rfl (by go_simp) (by go_simp) (B1.out.alloc _) (bytesIn_new1 _ 48 _ rfl) (by simp; omega) ?_; intro g5 v5 w5 happ5; have E5 := Lib.hid (E1.out.below (((Below.refl C _).alloc (by have := E1.out.tm.b; omega) _).trans (happ5.below hg (by have := B1.out.lt; simp; omega))))) | (go_at_call 186; refine (itoa_any _ _ (by omega) (by omega) (E5.out.tab _ (Below.refl _ _))).mono ?_; rintro e w6 ⟨rfl, hb6⟩) | (at_builtin; refine wpList_append_buf (y := .string (bs (num3 n))) (news := num3 n) rfl _ _ 9 rfl (by go_simp) (by go_simp) (happ5.buf.below hb6 happ5.buf.lt) (bytesIn_bs _ (num3 n)) (by have := num3_len n; simp; omega) ?_; intro g' v' w7 happ))
      go_ret
      have R := ((happ5.pre ((Below.refl _ _).alloc (Nat.le_refl _) _)).trans (happ.pre hb6)).pre BB.out
      rw [List.append_assoc] at R
      exact ⟨g', v', rfl, R⟩
    · rw [← num_mid n (by omega) (by omega)]
      go_enter Tryz.func223, Tryz.ntmps223
      go_wp2_with (first | (go_at_call 53; refine (H _).mono ?_; rintro e w1 ⟨rfl, hb⟩; have B0 := Lib.hid (((Below.refl w.heap.size w).alloc (Nat.le_refl _) _).trans (hb.mono (by simp))); have E0 := Lib.hid (h.up B0.out); obtain ⟨hc, hf⟩ := bcell hb) | (go_at_call 73; refine (H2 _ E0.out).mono ?_; rintro e w2 ⟨rfl, hb2⟩; have BB := Lib.hid (B0.out.trans (hb2.mono B0.out.size)); have E1 := Lib.hid (h.up BB.out); have B1 := Lib.hid (hB.below BB.out hlt)) | (go_at_call 186; refine (itoa_any _ _ (by omega) (by omega) (E1.out.tab _ (Below.refl _ _))).mono ?_; rintro e w6 ⟨rfl, hb6⟩) | (at_builtin; refine wpList_append_buf (y := .string (bs (num3 n))) (news := num3 n) rfl _ _ 9 rfl (by go_simp) (by go_simp) (B1.out.below hb6 B1.out.lt) (bytesIn_bs _ (num3 n)) (by have := num3_len n; simp; omega) ?_; intro g' v' w7 happ))
      go_ret
      have R := (happ.pre hb6).pre BB.out
      skip
      exact ⟨g', v', rfl, R⟩

set_option maxRecDepth 100000 in
theorem wk_mon (h : Env w C wl ex lc A nm off) (hB : Buf w g v out) (hg : C ≤ g) (hl : out.length ≤ 400000) :
    Calls Tryz.prog 223 #[.bool false, v, .agg #[.int .u64 wl, .int .i64 ex, .pointer lc]] w (AppPost w g (out ++ d2 ((ydayF (A / 86400) + 6 - ((A / 86400 + 3) % 7 + 6) % 7) / 7))) := by
  have hlt := hB.lt
  have hC := h.tm.b
  have hc1 := h.c1
  have hw : 0 ≤ (A / 86400 + 3) % 7 ∧ (A / 86400 + 3) % 7 ≤ 6 := by omega
  have hy := ydayF_bd (A / 86400)
  have H := fun o => weekday_of (h.tm.alloc o)
  have H2 := fun w' (h' : Env w' C wl ex lc A nm off) => yearDay_of h'.tm
  generalize (A / 86400 + 3) % 7 = wd at *
  generalize ydayF (A / 86400) = yd at *
  by_cases hz : wd = 0
  · have hz1 : (wd != 0) = false := by rw [hz]; rfl
    obtain ⟨n, hn⟩ : ∃ n, n = yd / 7 := ⟨_, rfl⟩
    have hn0 : 0 ≤ n := by omega
    have hn1 : n ≤ 99 := by omega
    have hy2 : yd / 7 = n := hn.symm
    have ht : (yd + 6 - (wd + 6) % 7) / 7 = n := by omega
    rw [ht]
    clear hn ht
    by_cases h10 : n < 10
    · rw [d2_lt n hn0 h10, ← List.singleton_append, ← num_lt n h10]
      go_enter Tryz.func223, Tryz.ntmps223
      go_wp2_with (first | (go_at_call 53; refine (H _).mono ?_; rintro e w1 ⟨rfl, hb⟩; have B0 := Lib.hid (((Below.refl w.heap.size w).alloc (Nat.le_refl _) _).trans (hb.mono (by simp))); have E0 := Lib.hid (h.up B0.out); obtain ⟨hc, hf⟩ := bcell hb) | (go_at_call 73; refine (H2 _ E0.out).mono ?_; rintro e w2 ⟨rfl, hb2⟩; have BB := Lib.hid (B0.out.trans (hb2.mono B0.out.size)); have E1 := Lib.hid (h.up BB.out); have B1 := Lib.hid (hB.below BB.out hlt)) | (at_builtin; refine wpList_append_buf rfl _ _ 34 rfl (by go_simp) (by go_simp) (B1.out.alloc _) (bytesIn_new1 _ 48 _ rfl) (by simp; omega) ?_; intro g5 v5 w5 happ5; have E5 := Lib.hid (E1.out.below (((Below.refl C _).alloc (by have := E1.out.tm.b; omega) _).trans (happ5.below hg (by have := B1.out.lt; simp; omega))))) | (go_at_call 186; refine (itoa_any _ _ (by omega) (by omega) (E5.out.tab _ (Below.refl _ _))).mono ?_; rintro e w6 ⟨rfl, hb6⟩) | (at_builtin; refine wpList_append_buf (y := .string (bs (num3 n))) (news := num3 n) rfl _ _ 9 rfl (by go_simp) (by go_simp) (happ5.buf.below hb6 happ5.buf.lt) (bytesIn_bs _ (num3 n)) (by have := num3_len n; simp; omega) ?_; intro g' v' w7 happ))
      go_ret
      have R := ((happ5.pre ((Below.refl _ _).alloc (Nat.le_refl _) _)).trans (happ.pre hb6)).pre BB.out
      rw [List.append_assoc] at R
      exact ⟨g', v', rfl, R⟩
    · rw [← num_mid n (by omega) (by omega)]
      go_enter Tryz.func223, Tryz.ntmps223
      go_wp2_with (first | (go_at_call 53; refine (H _).mono ?_; rintro e w1 ⟨rfl, hb⟩; have B0 := Lib.hid (((Below.refl w.heap.size w).alloc (Nat.le_refl _) _).trans (hb.mono (by simp))); have E0 := Lib.hid (h.up B0.out); obtain ⟨hc, hf⟩ := bcell hb) | (go_at_call 73; refine (H2 _ E0.out).mono ?_; rintro e w2 ⟨rfl, hb2⟩; have BB := Lib.hid (B0.out.trans (hb2.mono B0.out.size)); have E1 := Lib.hid (h.up BB.out); have B1 := Lib.hid (hB.below BB.out hlt)) | (go_at_call 186; refine (itoa_any _ _ (by omega) (by omega) (E1.out.tab _ (Below.refl _ _))).mono ?_; rintro e w6 ⟨rfl, hb6⟩) | (at_builtin; refine wpList_append_buf (y := .string (bs (num3 n))) (news := num3 n) rfl _ _ 9 rfl (by go_simp) (by go_simp) (B1.out.below hb6 B1.out.lt) (bytesIn_bs _ (num3 n)) (by have := num3_len n; simp; omega) ?_; intro g' v' w7 happ))
      go_ret
      have R := (happ.pre hb6).pre BB.out
      skip
      exact ⟨g', v', rfl, R⟩
  · have hz1 : (wd != 0) = true := bne_iff_ne.mpr hz
    obtain ⟨n, hn⟩ : ∃ n, n = (yd + (7 - wd)) / 7 := ⟨_, rfl⟩
    have hn0 : 0 ≤ n := by omega
    have hn1 : n ≤ 99 := by omega
    have hy2 : (yd + (7 - wd)) / 7 = n := hn.symm
    have ht : (yd + 6 - (wd + 6) % 7) / 7 = n := by omega
    rw [ht]
    clear hn ht
    by_cases h10 : n < 10
    · rw [d2_lt n hn0 h10, ← List.singleton_append, ← num_lt n h10]
      go_enter Tryz.func223, Tryz.ntmps223
      go_wp2_with (first | (go_at_call 53; refine (H _).mono ?_; rintro e w1 ⟨rfl, hb⟩; have B0 := Lib.hid (((Below.refl w.heap.size w).alloc (Nat.le_refl _) _).trans (hb.mono (by simp))); have E0 := Lib.hid (h.up B0.out); obtain ⟨hc, hf⟩ := bcell hb) | (go_at_call 73; refine (H2 _ E0.out).mono ?_; rintro e w2 ⟨rfl, hb2⟩; have BB := Lib.hid (B0.out.trans (hb2.mono B0.out.size)); have E1 := Lib.hid (h.up BB.out); have B1 := Lib.hid (hB.below BB.out hlt)) | (at_builtin; refine wpList_append_buf rfl _ _ 34 rfl (by go_simp) (by go_simp) (B1.out.alloc _) (bytesIn_new1 _ 48 _ rfl) (by simp; omega) ?_; intro g5 v5 w5 happ5; have E5 := Lib.hid (E1.out.below (((Below.refl C _).alloc (by have := E1.out.tm.b; omega) _).trans (happ5.below hg (by have := B1.out.lt; simp; omega))))) | (go_at_call 186; refine (itoa_any _ _ (by omega) (by omega) (E5.out.tab _ (Below.refl _ _))).mono ?_; rintro e w6 ⟨rfl, hb6⟩) | (at_builtin; refine wpList_append_buf (y := .string (bs (num3 n))) (news := num3 n) rfl _ _ 9 rfl (by go_simp) (by go_simp) (happ5.buf.below hb6 happ5.buf.lt) (bytesIn_bs _ (num3 n)) (by have := num3_len n; simp; omega) ?_; intro g' v' w7 happ))
      go_ret
      have R := ((happ5.pre ((Below.refl _ _).alloc (Nat.le_refl _) _)).trans (happ.pre hb6)).pre BB.out
      rw [List.append_assoc] at R
      exact ⟨g', v', rfl, R⟩
    · rw [← num_mid n (by omega) (by omega)]
      go_enter Tryz.func223, Tryz.ntmps223
      go_wp2_with (first | (go_at_call 53; refine (H _).mono ?_; rintro e w1 ⟨rfl, hb⟩; have B0 := Lib.hid (((Below.refl w.heap.size w).alloc (Nat.le_refl _) _).trans (hb.mono (by simp))); have E0 := Lib.hid (h.up B0.out); obtain ⟨hc, hf⟩ := bcell hb) | (go_at_call 73; refine (H2 _ E0.out).mono ?_; rintro e w2 ⟨rfl, hb2⟩; have BB := Lib.hid (B0.out.trans (hb2.mono B0.out.size)); have E1 := Lib.hid (h.up BB.out); have B1 := Lib.hid (hB.below BB.out hlt)) | (go_at_call 186; refine (itoa_any _ _ (by omega) (by omega) (E1.out.tab _ (Below.refl _ _))).mono ?_; rintro e w6 ⟨rfl, hb6⟩) | (at_builtin; refine wpList_append_buf (y := .string (bs (num3 n))) (news := num3 n) rfl _ _ 9 rfl (by go_simp) (by go_simp) (B1.out.below hb6 B1.out.lt) (bytesIn_bs _ (num3 n)) (by have := num3_len n; simp; omega) ?_; intro g' v' w7 happ))
      go_ret
      have R := (happ.pre hb6).pre BB.out
      skip
      exact ⟨g', v', rfl, R⟩

set_option maxRecDepth 100000 in
theorem func_any (k : Nat) (x : List UInt8) (h : Env w C wl ex lc A nm off) (hB : Buf w g v out) (hg : C ≤ g) (hk : k = 178 ∨ k = 181 ∨ k = 183) (hK : ∀ w', Env w' C wl ex lc A nm off → Buf w' g v out → Calls Tryz.prog k #[v, .agg #[.int .u64 wl, .int .i64 ex, .pointer lc]] w' (AppPost w' g (out ++ x))) :
    Calls Tryz.prog 219 #[.func (.func k) #[] #[], v, .agg #[.int .u64 wl, .int .i64 ex, .pointer lc]] w (AppPost w g (out ++ x)) := by
  have H := fun o => hK (w.alloc o) (h.up ((Below.refl _ _).alloc (Nat.le_refl _) _)) (hB.alloc o)
  rcases hk with rfl | rfl | rfl
  · go_enter Tryz.func219, Tryz.ntmps219
    go_wp2_with (first | (go_at_call 178; refine (H _).mono ?_; rintro e w1 ⟨g', v', rfl, happ⟩))
    go_ret
    exact ⟨g', v', rfl, happ.pre ((Below.refl _ _).alloc (Nat.le_refl _) _)⟩
  · go_enter Tryz.func219, Tryz.ntmps219
    go_wp2_with (first | (go_at_call 181; refine (H _).mono ?_; rintro e w1 ⟨g', v', rfl, happ⟩))
    go_ret
    exact ⟨g', v', rfl, happ.pre ((Below.refl _ _).alloc (Nat.le_refl _) _)⟩
  · go_enter Tryz.func219, Tryz.ntmps219
    go_wp2_with (first | (go_at_call 183; refine (H _).mono ?_; rintro e w1 ⟨g', v', rfl, happ⟩))
    go_ret
    exact ⟨g', v', rfl, happ.pre ((Below.refl _ _).alloc (Nat.le_refl _) _)⟩
end
end Go.Proofs.YtkcgngpoegglnaaGreatDoor
