/- Contracts of the functions that make a time. -/
import Derived.Test.YtkcgngpoegglnaaGreatDoorM03
namespace Go.Proofs.YtkcgngpoegglnaaGreatDoor
open Go Go.RowKit
set_option linter.unusedVariables false

theorem fixed_any (nm : ByteArray) (off : Int) (w : World) :
    Calls Tryz.prog 45 #[.string nm, .int .i64 off] w fun e w' => e = .returned (.pointer (some ⟨w.heap.size + 1 + 1, 0, none⟩)) ∧ Below w.heap.size w w' ∧ PlaceAt w' w'.heap.size (w.heap.size + 1 + 1) w.heap.size nm off := by
  go_enter Tryz.func45, Tryz.ntmps45
  go_wp2
  go_ret
  refine ⟨rfl, (((Below.refl _ _).alloc (Nat.le_refl _) _).alloc (by simp) _).alloc (by simp; omega) _, ⟨?_, ?_, ?_, ?_, ?_, ?_, ?_, ?_, ?_, ?_, ?_, ?_⟩⟩
  all_goals go_simp
  all_goals omega

theorem fixed2_any (nm : ByteArray) (off : Int) (w : World) :
    Calls Tryz.prog 35 #[.string nm, .int .i64 off] w fun e w' => e = .returned (.pointer (some ⟨w.heap.size + 1 + 1, 0, none⟩)) ∧ Below w.heap.size w w' ∧ PlaceAt w' w'.heap.size (w.heap.size + 1 + 1) w.heap.size nm off := by
  go_enter Tryz.func35, Tryz.ntmps35
  go_wp2_with (first | (go_at_call 45; refine (fixed_any _ _ _).mono ?_; rintro e w' ⟨rfl, hb, hp⟩))
  go_ret
  exact ⟨rfl, hb, hp⟩

theorem unixTime_any (s n : Int) (w : World) (h0 : -100000000000 ≤ s) (h1 : s < 1000000000000) (h2 : 0 ≤ n) (h3 : n < 1000000000) :
    Calls Tryz.prog 49 #[.int .i64 s, .int .i32 n] w fun e w' => e = .returned (.agg #[.int .u64 n, .int .i64 (s + 62135596800), .pointer none]) ∧ w.alloc (.cells #[.int .u64 n, .int .i64 (s + 62135596800), .pointer none] 48) = w' := by
  go_enter Tryz.func49, Tryz.ntmps49
  go_wp2
  exact bodyPost_ret (v := .agg #[.int .u64 n, .int .i64 (s + 62135596800), .pointer none]) (by simp [results, Tryz.results49, go_sem]) rfl ⟨rfl, rfl⟩

theorem strip_any (b : Nat) (wl : Int) (w : World) (h0 : 0 ≤ wl) (h1 : wl < 1073741824) (c0 : w.cell? ⟨b, 0, none⟩ = some (.int .u64 wl)) :
    Calls Tryz.prog 82 #[.pointer (some ⟨b, 0, none⟩)] w fun e w' => e = .returned (.tuple #[]) ∧ w = w' := by
  have hb := u64_and63 wl h0 (by omega)
  go_enter Tryz.func82, Tryz.ntmps82
  go_wp2
  go_end0
  exact ⟨rfl, rfl⟩

theorem setLoc_place (b L : Nat) (wl : Int) (w : World) (h0 : 0 ≤ wl) (h1 : wl < 1073741824) (c0 : w.cell? ⟨b, 0, none⟩ = some (.int .u64 wl)) (c2 : w.cell? ⟨b, 2, none⟩ = some (.pointer none)) (f2 : w.frozen? ⟨b, 2, none⟩ = false)
    (l0 : w.cell? ⟨L, 0, none⟩ = some (.bool false)) :
    Calls Tryz.prog 50 #[.pointer (some ⟨b, 0, none⟩), .pointer (some ⟨L, 0, none⟩)] w fun e w' => e = .returned (.tuple #[]) ∧ w.setCell ⟨b, 2, none⟩ (.pointer (some ⟨L, 0, none⟩)) = w' := by
  go_enter Tryz.func50, Tryz.ntmps50
  go_wp2_with (first | (go_at_call 82; refine (strip_any _ _ _ h0 h1 c0).mono ?_; rintro e w' ⟨rfl, rfl⟩))
  go_end0
  exact ⟨rfl, rfl⟩

theorem setLoc_utc (b L : Nat) (wl : Int) (w : World) (h0 : 0 ≤ wl) (h1 : wl < 1073741824) (c0 : w.cell? ⟨b, 0, none⟩ = some (.int .u64 wl)) (c2 : w.cell? ⟨b, 2, none⟩ = some (.pointer none)) (f2 : w.frozen? ⟨b, 2, none⟩ = false)
    (l0 : w.cell? ⟨L, 0, none⟩ = some (.bool true)) :
    Calls Tryz.prog 50 #[.pointer (some ⟨b, 0, none⟩), .pointer (some ⟨L, 0, none⟩)] w fun e w' => e = .returned (.tuple #[]) ∧ w.setCell ⟨b, 2, none⟩ (.pointer none) = w' := by
  go_enter Tryz.func50, Tryz.ntmps50
  go_wp2_with (first | (go_at_call 82; refine (strip_any _ _ _ h0 h1 c0).mono ?_; rintro e w' ⟨rfl, rfl⟩))
  go_end0
  exact ⟨rfl, rfl⟩

set_option maxRecDepth 100000 in
theorem lookup_utc (L : Nat) (sec : Int) (w : World) (l2 : w.cell? ⟨L, 2, none⟩ = some (.slice none 0 0)) :
    Calls Tryz.prog 48 #[.pointer (some ⟨L, 0, none⟩), .int .i64 sec] w fun e w' => e = .returned (.tuple #[.string utcS, .int .i64 0, .int .i64 (-9223372036854775808), .int .i64 9223372036854775807, .bool false]) ∧ w = w' := by
  go_enter Tryz.func48, Tryz.ntmps48
  go_wp2_with (first | (go_at_call 80; refine (get_some _ _).mono ?_; rintro e w' ⟨rfl, rfl⟩))
  exact bodyPost_ret (v := .tuple #[.string utcS, .int .i64 0, .int .i64 (-9223372036854775808), .int .i64 9223372036854775807, .bool false]) (by simp [results, Tryz.results48, go_sem]) rfl ⟨rfl, rfl⟩

set_option maxRecDepth 100000 in
theorem lookup_place (C L Z : Nat) (nm : ByteArray) (off sec : Int) (w : World) (h0 : -1000000000000 ≤ sec) (h1 : sec < 1000000000000) (hp : PlaceAt w C L Z nm off) :
    Calls Tryz.prog 48 #[.pointer (some ⟨L, 0, none⟩), .int .i64 sec] w fun e w' => e = .returned (.tuple #[.string nm, .int .i64 off, .int .i64 (-9223372036854775808), .int .i64 9223372036854775807, .bool false]) ∧ w = w' := by
  obtain ⟨c0, c1, c2, c5, c6, c7, z0, z1, z2, l', z', b'⟩ := hp
  have l : L < w.heap.size := Nat.lt_of_lt_of_le l' b'
  have z : Z < w.heap.size := Nat.lt_of_lt_of_le z' b'
  clear l' z' b'
  go_enter Tryz.func48, Tryz.ntmps48
  go_wp2_with (first | (go_at_call 80; refine (get_some _ _).mono ?_; rintro e w' ⟨rfl, rfl⟩))
  exact bodyPost_ret (v := .tuple #[.string nm, .int .i64 off, .int .i64 (-9223372036854775808), .int .i64 9223372036854775807, .bool false]) (by simp [results, Tryz.results48, go_sem]) rfl ⟨rfl, rfl⟩

theorem absF_bd (y m d : Int) (h0 : 1 ≤ y) (h1 : y ≤ 9999) (h2 : 1 ≤ m) (h3 : m ≤ 12) (h4 : 1 ≤ d) (h5 : d ≤ 31) : 106751990354200 ≤ absF y m d ∧ absF y m d < 106751994100000 := by
  unfold absF amoF jfM
  split <;> omega

set_option maxRecDepth 100000 in
theorem date_place (y m d hh mm ss ns : Int) (C L Z : Nat) (nm : ByteArray) (off : Int) (w : World) (h0 : 1 ≤ y) (h1 : y ≤ 9999) (h2 : 1 ≤ m) (h3 : m ≤ 12) (h4 : 1 ≤ d) (h5 : d ≤ 31)
    (h6 : 0 ≤ hh) (h7 : hh < 24) (h8 : 0 ≤ mm) (h9 : mm < 60) (h10 : 0 ≤ ss) (h11 : ss < 60) (h12 : 0 ≤ ns) (h13 : ns < 1000000000) (h14 : -50400 ≤ off) (h15 : off ≤ 50400) (hp : PlaceAt w C L Z nm off) :
    Calls Tryz.prog 36 #[.int .i64 y, .int .i64 m, .int .i64 d, .int .i64 hh, .int .i64 mm, .int .i64 ss, .int .i64 ns, .pointer (some ⟨L, 0, none⟩)] w fun e w' =>
      e = .returned (.agg #[.int .u64 ns, .int .i64 (absF y m d * 86400 + (hh * 3600 + mm * 60 + ss) - off - 9223371966606163200), .pointer (some ⟨L, 0, none⟩)]) ∧ Below w.heap.size w w' := by
  have hU := absF_bd y m d h0 h1 h2 h3 h4 h5
  have A47 := @dateToAbsDays_any y m d
  generalize absF y m d = U at *
  obtain ⟨V, hV⟩ : ∃ V, V = U * 86400 + (hh * 3600 + mm * 60 + ss) - 9223372028741760000 := ⟨_, rfl⟩
  have hW : wrap64 (wrap64 (wrap64 (U * 86400) + (hh * 3600 + mm * 60 + ss)) + -9223372028741760000) = V := by unfold wrap64; omega
  have v0 : -62140000000 ≤ V := by omega
  have v1 : V < 300000000000 := by omega
  have eV : U * 86400 + (hh * 3600 + mm * 60 + ss) - off - 9223371966606163200 = V - off + 62135596800 := by omega
  rw [eV]
  clear eV hV
  by_cases ho : off = 0
  · subst ho
    go_enter Tryz.func36, Tryz.ntmps36
    go_wp2_with (first | (go_at_call 46; refine (norm_any _ _ _ _ (by omega) (by omega)).mono ?_; rintro e w' ⟨rfl, rfl⟩) | (go_at_call 47; refine (A47 _ h0 h1 h2 h3 h4 h5).mono ?_; rintro e w' ⟨rfl, rfl⟩) | (go_at_call 48; refine (lookup_place C _ Z nm 0 _ _ (by omega) (by omega) (hp.below ((Below.refl _ _).alloc (Nat.le_refl _) _) hp.b)).mono ?_; rintro e w' ⟨rfl, rfl⟩) | (go_at_call 49; refine (unixTime_any _ _ _ (by omega) (by omega) (by omega) (by omega)).mono ?_; rintro e w' ⟨rfl, rfl⟩) | (go_at_call 50; refine (setLoc_place _ _ ns _ (by omega) (by omega) (by go_simp) (by go_simp) (by go_simp) (cell_keeps ((((Below.refl _ _).alloc (Nat.le_refl _) _).alloc (by simp) _).alloc (by simp; omega) _) hp.c0)).mono ?_; rintro e w' ⟨rfl, rfl⟩))
    refine bodyPost_ret (v := .agg #[.int .u64 ns, .int .i64 (V - 0 + 62135596800), .pointer (some ⟨L, 0, none⟩)]) (by simp [results, Tryz.results36, go_sem]) rfl ⟨rfl, ?_⟩
    repeat (first | exact Below.refl _ _ | refine Below.alloc ?_ (by simp <;> omega) _)
  · have b1 : (off != 0) = true := bne_iff_ne.mpr ho
    go_enter Tryz.func36, Tryz.ntmps36
    go_wp2_with (first | (go_at_call 46; refine (norm_any _ _ _ _ (by omega) (by omega)).mono ?_; rintro e w' ⟨rfl, rfl⟩) | (go_at_call 47; refine (A47 _ h0 h1 h2 h3 h4 h5).mono ?_; rintro e w' ⟨rfl, rfl⟩) | (go_at_call 48; refine (lookup_place C _ Z nm off _ _ (by omega) (by omega) (hp.below ((Below.refl _ _).alloc (Nat.le_refl _) _) hp.b)).mono ?_; rintro e w' ⟨rfl, rfl⟩) | (go_at_call 49; refine (unixTime_any _ _ _ (by omega) (by omega) (by omega) (by omega)).mono ?_; rintro e w' ⟨rfl, rfl⟩) | (go_at_call 50; refine (setLoc_place _ _ ns _ (by omega) (by omega) (by go_simp) (by go_simp) (by go_simp) (cell_keeps ((((Below.refl _ _).alloc (Nat.le_refl _) _).alloc (by simp) _).alloc (by simp; omega) _) hp.c0)).mono ?_; rintro e w' ⟨rfl, rfl⟩))
    refine bodyPost_ret (v := .agg #[.int .u64 ns, .int .i64 (V - off + 62135596800), .pointer (some ⟨L, 0, none⟩)]) (by simp [results, Tryz.results36, go_sem]) rfl ⟨rfl, ?_⟩
    repeat (first | exact Below.refl _ _ | refine Below.alloc ?_ (by simp <;> omega) _)

set_option maxRecDepth 100000 in
theorem date_utc (y m d hh mm ss ns : Int) (L : Nat) (w : World) (h0 : 1 ≤ y) (h1 : y ≤ 9999) (h2 : 1 ≤ m) (h3 : m ≤ 12) (h4 : 1 ≤ d) (h5 : d ≤ 31)
    (h6 : 0 ≤ hh) (h7 : hh < 24) (h8 : 0 ≤ mm) (h9 : mm < 60) (h10 : 0 ≤ ss) (h11 : ss < 60) (h12 : 0 ≤ ns) (h13 : ns < 1000000000) (l0 : w.cell? ⟨L, 0, none⟩ = some (.bool true)) (l2 : w.cell? ⟨L, 2, none⟩ = some (.slice none 0 0)) :
    Calls Tryz.prog 36 #[.int .i64 y, .int .i64 m, .int .i64 d, .int .i64 hh, .int .i64 mm, .int .i64 ss, .int .i64 ns, .pointer (some ⟨L, 0, none⟩)] w fun e w' =>
      e = .returned (.agg #[.int .u64 ns, .int .i64 (absF y m d * 86400 + (hh * 3600 + mm * 60 + ss) - 0 - 9223371966606163200), .pointer none]) ∧ Below w.heap.size w w' := by
  have hU := absF_bd y m d h0 h1 h2 h3 h4 h5
  have A47 := @dateToAbsDays_any y m d
  generalize absF y m d = U at *
  obtain ⟨V, hV⟩ : ∃ V, V = U * 86400 + (hh * 3600 + mm * 60 + ss) - 9223372028741760000 := ⟨_, rfl⟩
  have hW : wrap64 (wrap64 (wrap64 (U * 86400) + (hh * 3600 + mm * 60 + ss)) + -9223372028741760000) = V := by unfold wrap64; omega
  have v0 : -62140000000 ≤ V := by omega
  have v1 : V < 300000000000 := by omega
  have eV : U * 86400 + (hh * 3600 + mm * 60 + ss) - 0 - 9223371966606163200 = V + 62135596800 := by omega
  rw [eV]
  clear eV hV
  go_enter Tryz.func36, Tryz.ntmps36
  go_wp2_with (first | (go_at_call 46; refine (norm_any _ _ _ _ (by omega) (by omega)).mono ?_; rintro e w' ⟨rfl, rfl⟩) | (go_at_call 47; refine (A47 _ h0 h1 h2 h3 h4 h5).mono ?_; rintro e w' ⟨rfl, rfl⟩) | (go_at_call 48; refine (lookup_utc _ _ _ (cell_keeps ((Below.refl _ _).alloc (Nat.le_refl _) _) l2)).mono ?_; rintro e w' ⟨rfl, rfl⟩) | (go_at_call 49; refine (unixTime_any _ _ _ (by omega) (by omega) (by omega) (by omega)).mono ?_; rintro e w' ⟨rfl, rfl⟩) | (go_at_call 50; refine (setLoc_utc _ _ ns _ (by omega) (by omega) (by go_simp) (by go_simp) (by go_simp) (cell_keeps ((((Below.refl _ _).alloc (Nat.le_refl _) _).alloc (by simp) _).alloc (by simp; omega) _) l0)).mono ?_; rintro e w' ⟨rfl, rfl⟩))
  refine bodyPost_ret (v := .agg #[.int .u64 ns, .int .i64 (V + 62135596800), .pointer none]) (by simp [results, Tryz.results36, go_sem]) rfl ⟨rfl, ?_⟩
  repeat (first | exact Below.refl _ _ | refine Below.alloc ?_ (by simp <;> omega) _)

/-- what the call that makes a time leaves. -/
def MomentPost (w : World) (ns A : Int) (nm : ByteArray) (off : Int) (e : Ending) (w' : World) : Prop :=
  ∃ ex lc, e = .returned (.agg #[.int .u64 ns, .int .i64 ex, .pointer lc]) ∧ Below w.heap.size w w' ∧ TimeAt w' w'.heap.size ns ex lc A nm off

theorem secs_bd {y m d hh mm ss : Int} (h0 : 1 ≤ y) (h1 : y ≤ 9999) (h2 : 1 ≤ m) (h3 : m ≤ 12) (h4 : 1 ≤ d) (h5 : d ≤ 31) (h6 : 0 ≤ hh) (h7 : hh < 24) (h8 : 0 ≤ mm) (h9 : mm < 60) (h10 : 0 ≤ ss) (h11 : ss < 60) :
    (absF y m d * 86400 + (hh * 3600 + mm * 60 + ss)) / 86400 = absF y m d := by omega

set_option maxRecDepth 100000 in
theorem moment_utc (y m d hh mm ss ns : Int) (w : World) (h0 : 1 ≤ y) (h1 : y ≤ 9999) (h2 : 1 ≤ m) (h3 : m ≤ 12) (h4 : 1 ≤ d) (h5 : d ≤ 31)
    (h6 : 0 ≤ hh) (h7 : hh < 24) (h8 : 0 ≤ mm) (h9 : mm < 60) (h10 : 0 ≤ ss) (h11 : ss < 60) (h12 : 0 ≤ ns) (h13 : ns < 1000000000) :
    Calls Tryz.prog 18 #[.agg #[.int .i64 y, .int .i64 m, .int .i64 d, .int .i64 hh, .int .i64 mm, .int .i64 ss, .int .i64 ns, .int .i64 0, .string utcS]] w
      (MomentPost w ns (absF y m d * 86400 + (hh * 3600 + mm * 60 + ss)) utcS 0) := by
  have U := absF_bd y m d h0 h1 h2 h3 h4 h5
  have S := secs_bd h0 h1 h2 h3 h4 h5 h6 h7 h8 h9 h10 h11
  have D := @date_utc y m d hh mm ss ns
  go_enter Tryz.func18, Tryz.ntmps18
  go_wp2_with (first | (go_at_call 34; refine (utc_any _).mono ?_; rintro e w' ⟨rfl, rfl⟩) | (go_at_call 36; refine (D _ _ h0 h1 h2 h3 h4 h5 h6 h7 h8 h9 h10 h11 h12 h13 (by go_simp) (by go_simp)).mono ?_; rintro e w2 ⟨rfl, hb⟩; obtain ⟨hc, hf⟩ := bcell hb))
  refine bodyPost_ret (v := .agg #[.int .u64 ns, .int .i64 (absF y m d * 86400 + (hh * 3600 + mm * 60 + ss) - 9223371966606163200), .pointer none]) (by simp [results, Tryz.results18, go_sem, hc]) rfl ⟨_, _, rfl, ?_, ?_⟩
  · refine ((Below.setCell ?_ (by simp) _).setCell (by simp) _).setCell (by simp) _
    refine Below.trans ?_ (hb.mono (by simp; omega))
    repeat (first | exact Below.refl _ _ | refine Below.alloc ?_ (by simp <;> omega) _)
  · exact ⟨h12, by omega, by omega, by omega, by omega, by omega, by omega, .inl ⟨rfl, rfl, rfl⟩, Nat.le_refl _, by rw [S]; unfold InDays; omega, by rw [S]; omega⟩

set_option maxRecDepth 100000 in
theorem moment_place (y m d hh mm ss ns off : Int) (nm : ByteArray) (w : World) (h0 : 1 ≤ y) (h1 : y ≤ 9999) (h2 : 1 ≤ m) (h3 : m ≤ 12) (h4 : 1 ≤ d) (h5 : d ≤ 31)
    (h6 : 0 ≤ hh) (h7 : hh < 24) (h8 : 0 ≤ mm) (h9 : mm < 60) (h10 : 0 ≤ ss) (h11 : ss < 60) (h12 : 0 ≤ ns) (h13 : ns < 1000000000) (h14 : -50400 ≤ off) (h15 : off ≤ 50400)
    (hz : (off = 0 ∧ (!nm.toList == [85, 84, 67]) = true) ∨ ¬ off = 0) :
    Calls Tryz.prog 18 #[.agg #[.int .i64 y, .int .i64 m, .int .i64 d, .int .i64 hh, .int .i64 mm, .int .i64 ss, .int .i64 ns, .int .i64 off, .string nm]] w
      (MomentPost w ns (absF y m d * 86400 + (hh * 3600 + mm * 60 + ss)) nm off) := by
  have U := absF_bd y m d h0 h1 h2 h3 h4 h5
  have S := secs_bd h0 h1 h2 h3 h4 h5 h6 h7 h8 h9 h10 h11
  have D := @date_place y m d hh mm ss ns
  rcases hz with ⟨rfl, hz⟩ | hz
  · go_enter Tryz.func18, Tryz.ntmps18
    go_wp2_with (first | (go_at_call 34; refine (utc_any _).mono ?_; rintro e w' ⟨rfl, rfl⟩) | (go_at_call 35; refine (fixed2_any _ _ _).mono ?_; rintro e w1 ⟨rfl, hb1, hp⟩; obtain ⟨hc1, hf1⟩ := bcell hb1; have hz1 := hb1.size; simp at hp hz1; have hz2 : w.heap.size + 1 < w1.heap.size := by omega) | (go_at_call 36; refine (D _ _ _ _ _ _ h0 h1 h2 h3 h4 h5 h6 h7 h8 h9 h10 h11 h12 h13 (by omega) (by omega) hp).mono ?_; rintro e w2 ⟨rfl, hb⟩; obtain ⟨hc, hf⟩ := bcell hb))
    refine bodyPost_ret (v := .agg #[.int .u64 ns, .int .i64 (absF y m d * 86400 + (hh * 3600 + mm * 60 + ss) - 9223371966606163200), .pointer (some ⟨w.heap.size + 1 + 1 + 1 + 1 + 1, 0, none⟩)]) (by simp [results, Tryz.results18, go_sem, hc, hc1, hz2]) rfl ⟨_, _, rfl, ?_, ?_⟩
    · refine ((Below.setCell ?_ (by simp) _).setCell (by simp) _).setCell (by simp) _
      refine Below.trans ?_ (hb.mono (by omega))
      refine Below.trans ?_ (hb1.mono (by simp; omega))
      repeat (first | exact Below.refl _ _ | refine Below.alloc ?_ (by simp <;> omega) _)
    · exact ⟨h12, by omega, by omega, by omega, by omega, by omega, by omega, .inr ⟨_, _, rfl, ((((hp.below hb (Nat.le_refl _)).setCell _ _ _ (by omega) (by omega)).setCell _ _ _ (by omega) (by omega)).setCell _ _ _ (by omega) (by omega)).raise (by have := hb.size; simpa using this) (Nat.le_refl _)⟩, Nat.le_refl _, by rw [S]; unfold InDays; omega, by rw [S]; omega⟩
  · go_enter Tryz.func18, Tryz.ntmps18
    go_wp2_with (first | (go_at_call 34; refine (utc_any _).mono ?_; rintro e w' ⟨rfl, rfl⟩) | (go_at_call 35; refine (fixed2_any _ _ _).mono ?_; rintro e w1 ⟨rfl, hb1, hp⟩; obtain ⟨hc1, hf1⟩ := bcell hb1; have hz1 := hb1.size; simp at hp hz1; have hz2 : w.heap.size + 1 < w1.heap.size := by omega) | (go_at_call 36; refine (D _ _ _ _ _ _ h0 h1 h2 h3 h4 h5 h6 h7 h8 h9 h10 h11 h12 h13 (by omega) (by omega) hp).mono ?_; rintro e w2 ⟨rfl, hb⟩; obtain ⟨hc, hf⟩ := bcell hb))
    refine bodyPost_ret (v := .agg #[.int .u64 ns, .int .i64 (absF y m d * 86400 + (hh * 3600 + mm * 60 + ss) - off - 9223371966606163200), .pointer (some ⟨w.heap.size + 1 + 1 + 1 + 1 + 1, 0, none⟩)]) (by simp [results, Tryz.results18, go_sem, hc, hc1, hz2]) rfl ⟨_, _, rfl, ?_, ?_⟩
    · refine ((Below.setCell ?_ (by simp) _).setCell (by simp) _).setCell (by simp) _
      refine Below.trans ?_ (hb.mono (by omega))
      refine Below.trans ?_ (hb1.mono (by simp; omega))
      repeat (first | exact Below.refl _ _ | refine Below.alloc ?_ (by simp <;> omega) _)
    · exact ⟨h12, by omega, by omega, by omega, by omega, by omega, by omega, .inr ⟨_, _, rfl, ((((hp.below hb (Nat.le_refl _)).setCell _ _ _ (by omega) (by omega)).setCell _ _ _ (by omega) (by omega)).setCell _ _ _ (by omega) (by omega)).raise (by have := hb.size; simpa using this) (Nat.le_refl _)⟩, Nat.le_refl _, by rw [S]; unfold InDays; omega, by rw [S]; omega⟩

theorem moment_any (y m d hh mm ss ns off : Int) (nm : ByteArray) (w : World) (h0 : 1 ≤ y) (h1 : y ≤ 9999) (h2 : 1 ≤ m) (h3 : m ≤ 12) (h4 : 1 ≤ d) (h5 : d ≤ 31)
    (h6 : 0 ≤ hh) (h7 : hh < 24) (h8 : 0 ≤ mm) (h9 : mm < 60) (h10 : 0 ≤ ss) (h11 : ss < 60) (h12 : 0 ≤ ns) (h13 : ns < 1000000000) (h14 : -50400 ≤ off) (h15 : off ≤ 50400) :
    Calls Tryz.prog 18 #[.agg #[.int .i64 y, .int .i64 m, .int .i64 d, .int .i64 hh, .int .i64 mm, .int .i64 ss, .int .i64 ns, .int .i64 off, .string nm]] w
      (MomentPost w ns (absF y m d * 86400 + (hh * 3600 + mm * 60 + ss)) nm off) := by
  by_cases ho : off = 0
  · by_cases hn : nm.toList = [85, 84, 67]
    · have e : nm = utcS := by
        rw [ByteArray.toList_eq] at hn
        obtain ⟨⟨l⟩⟩ := nm
        have : l = [85, 84, 67] := hn
        subst this; rfl
      subst ho; subst e
      exact moment_utc y m d hh mm ss ns w h0 h1 h2 h3 h4 h5 h6 h7 h8 h9 h10 h11 h12 h13
    · exact moment_place y m d hh mm ss ns off nm w h0 h1 h2 h3 h4 h5 h6 h7 h8 h9 h10 h11 h12 h13 h14 h15 (.inl ⟨ho, by simpa using hn⟩)
  · exact moment_place y m d hh mm ss ns off nm w h0 h1 h2 h3 h4 h5 h6 h7 h8 h9 h10 h11 h12 h13 h14 h15 (.inr ho)
end Go.Proofs.YtkcgngpoegglnaaGreatDoor
