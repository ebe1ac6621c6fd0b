/- Contracts of the methods of a time and of its place. · Contracts of the methods of a time that hand back a number. -/
import Derived.Test.YtkcgngpoegglnaaGreatDoorM02
/- Contracts of the methods of a time and of its place. -/
section
namespace Go.Proofs.YtkcgngpoegglnaaGreatDoor
open Go Go.RowKit
set_option linter.unusedVariables false

theorem sec_any (b : Nat) (wl ex : Int) (w : World) (h0 : 0 ≤ wl) (h1 : wl < 1073741824) (c0 : w.cell? ⟨b, 0, none⟩ = some (.int .u64 wl)) (c1 : w.cell? ⟨b, 1, none⟩ = some (.int .i64 ex)) :
    Calls Tryz.prog 106 #[.pointer (some ⟨b, 0, none⟩)] w fun e w' => e = .returned (.int .i64 ex) ∧ w = w' := by
  have hb := u64_and63 wl h0 (by omega)
  go_enter Tryz.func106, Tryz.ntmps106
  go_wp2
  go_ret
  exact ⟨rfl, rfl⟩

theorem unixSec_any (b : Nat) (wl ex : Int) (w : World) (h0 : 0 ≤ wl) (h1 : wl < 1073741824) (h2 : -10000000 ≤ ex) (h3 : ex < 1000000000000) (c0 : w.cell? ⟨b, 0, none⟩ = some (.int .u64 wl)) (c1 : w.cell? ⟨b, 1, none⟩ = some (.int .i64 ex)) :
    Calls Tryz.prog 98 #[.pointer (some ⟨b, 0, none⟩)] w fun e w' => e = .returned (.int .i64 (ex - 62135596800)) ∧ w = w' := by
  go_enter Tryz.func98, Tryz.ntmps98
  go_wp2_with (first | (go_at_call 106; refine (sec_any _ _ _ _ h0 h1 c0 c1).mono ?_; rintro e w' ⟨rfl, rfl⟩))
  go_ret
  exact ⟨rfl, rfl⟩

/-- the letters of the place that needs no offset. -/
abbrev utcS : ByteArray := ⟨#[85, 84, 67]⟩
abbrev utcCells : Array Value := #[.bool true, .string utcS, .slice none 0 0, .slice none 0 0, .string ⟨#[]⟩, .int .i64 0, .int .i64 0, .pointer none]

theorem utc_any (w : World) :
    Calls Tryz.prog 34 #[] w fun e w' => e = .returned (.pointer (some ⟨w.heap.size, 0, none⟩)) ∧ w.alloc (.cells utcCells 123) = w' := by
  go_enter Tryz.func34, Tryz.ntmps34
  go_wp2
  go_ret
  exact ⟨rfl, rfl⟩

theorem get_nil (w : World) :
    Calls Tryz.prog 80 #[.pointer none] w fun e w' => e = .returned (.pointer (some ⟨w.heap.size, 0, none⟩)) ∧ w.alloc (.cells utcCells 123) = w' := by
  go_enter Tryz.func80, Tryz.ntmps80
  go_wp2_with (first | (go_at_call 34; refine (utc_any _).mono ?_; rintro e w' ⟨rfl, rfl⟩))
  go_ret
  exact ⟨rfl, rfl⟩

theorem get_some (a : Addr) (w : World) :
    Calls Tryz.prog 80 #[.pointer (some a)] w fun e w' => e = .returned (.pointer (some a)) ∧ w = w' := by
  go_enter Tryz.func80, Tryz.ntmps80
  go_wp2
  go_ret
  exact ⟨rfl, rfl⟩

/-- the place at L, with its zone at Z, has this name and offset at every moment. -/
structure PlaceAt (w : World) (B L Z : Nat) (nm : ByteArray) (off : Int) : Prop where
  c0 : w.cell? ⟨L, 0, none⟩ = some (.bool false)
  c1 : w.cell? ⟨L, 1, none⟩ = some (.string nm)
  c2 : w.cell? ⟨L, 2, none⟩ = some (.slice (some ⟨Z, 0, none⟩) 1 1)
  c5 : w.cell? ⟨L, 5, none⟩ = some (.int .i64 (-9223372036854775808))
  c6 : w.cell? ⟨L, 6, none⟩ = some (.int .i64 9223372036854775807)
  c7 : w.cell? ⟨L, 7, none⟩ = some (.pointer (some ⟨Z, 0, none⟩))
  z0 : w.cell? ⟨Z, 0, none⟩ = some (.string nm)
  z1 : w.cell? ⟨Z, 1, none⟩ = some (.int .i64 off)
  z2 : w.cell? ⟨Z, 2, none⟩ = some (.bool false)
  l : L < B
  z : Z < B
  b : B ≤ w.heap.size

theorem cell_keeps {w w' : World} {a : Addr} {v : Value} (hb : Below w.heap.size w w') (h : w.cell? a = some v) : w'.cell? a = some v := by
  rw [hb.cell (World.block_lt_of_cell? w a h)]; exact h

theorem PlaceAt.below {w w' : World} {C L Z : Nat} {nm : ByteArray} {off : Int} {B : Nat} (h : PlaceAt w C L Z nm off) (hb : Below B w w') (hB : C ≤ B) : PlaceAt w' C L Z nm off := by
  have k : ∀ b o, b < C → w'.cell? ⟨b, o, none⟩ = w.cell? ⟨b, o, none⟩ := fun b o hb' => hb.cell (p := ⟨b, o, none⟩) (Nat.lt_of_lt_of_le hb' hB)
  exact ⟨by rw [k _ _ h.l]; exact h.c0, by rw [k _ _ h.l]; exact h.c1, by rw [k _ _ h.l]; exact h.c2, by rw [k _ _ h.l]; exact h.c5, by rw [k _ _ h.l]; exact h.c6, by rw [k _ _ h.l]; exact h.c7, by rw [k _ _ h.z]; exact h.z0, by rw [k _ _ h.z]; exact h.z1, by rw [k _ _ h.z]; exact h.z2, h.l, h.z, Nat.le_trans h.b hb.size⟩

theorem PlaceAt.raise {w : World} {C D L Z : Nat} {nm : ByteArray} {off : Int} (h : PlaceAt w C L Z nm off) (h1 : C ≤ D) (h2 : D ≤ w.heap.size) : PlaceAt w D L Z nm off :=
  ⟨h.c0, h.c1, h.c2, h.c5, h.c6, h.c7, h.z0, h.z1, h.z2, Nat.lt_of_lt_of_le h.l h1, Nat.lt_of_lt_of_le h.z h1, h2⟩

theorem bcell {W w1 : World} (hb : Below W.heap.size W w1) : (∀ b o, b < W.heap.size → w1.cell? ⟨b, o, none⟩ = W.cell? ⟨b, o, none⟩) ∧ (∀ b o, b < W.heap.size → w1.frozen? ⟨b, o, none⟩ = W.frozen? ⟨b, o, none⟩) :=
  ⟨fun b o h => hb.cell (p := ⟨b, o, none⟩) h, fun b o h => hb.frozen (p := ⟨b, o, none⟩) h⟩

theorem PlaceAt.setCell {w : World} {C L Z : Nat} {nm : ByteArray} {off : Int} (h : PlaceAt w C L Z nm off) (b o : Nat) (v : Value) (hL : L ≠ b) (hZ : Z ≠ b) : PlaceAt (w.setCell ⟨b, o, none⟩ v) C L Z nm off := by
  have k : ∀ c i, c ≠ b → (w.setCell ⟨b, o, none⟩ v).cell? ⟨c, i, none⟩ = w.cell? ⟨c, i, none⟩ := fun c i hc => World.cell?_of_block (Below.heap_setCell w ⟨b, o, none⟩ v c hc)
  exact ⟨by rw [k _ _ hL]; exact h.c0, by rw [k _ _ hL]; exact h.c1, by rw [k _ _ hL]; exact h.c2, by rw [k _ _ hL]; exact h.c5, by rw [k _ _ hL]; exact h.c6, by rw [k _ _ hL]; exact h.c7, by rw [k _ _ hZ]; exact h.z0, by rw [k _ _ hZ]; exact h.z1, by rw [k _ _ hZ]; exact h.z2, h.l, h.z, by simpa using h.b⟩

theorem u64_of_i64 (x : Int) (h0 : 0 ≤ x) (h1 : x < 18446744073709551616) : IntKind.u64.wrap (wrap64 x) = x := by
  simp only [IntKind.wrap_u64, wrap64]
  omega

/-- the absolute seconds of a time. -/
theorem absSec_nil (wl ex : Int) (w : World) (h0 : 0 ≤ wl) (h1 : wl < 1073741824) (h2 : -10000000 ≤ ex) (h3 : ex < 1000000000000) :
    Calls Tryz.prog 83 #[.agg #[.int .u64 wl, .int .i64 ex, .pointer none]] w fun e w' => e = .returned (.int .u64 (ex + 9223371966606163200)) ∧ Below w.heap.size w w' := by
  go_enter Tryz.func83, Tryz.ntmps83
  go_wp2_with (first | (go_at_call 80; refine (get_nil _).mono ?_; rintro e w' ⟨rfl, rfl⟩) | (go_at_call 98; refine (unixSec_any _ wl ex _ h0 h1 h2 h3 (by go_simp) (by go_simp)).mono ?_; rintro e w' ⟨rfl, rfl⟩))
  go_ret
  refine ⟨congrArg _ (int_eq ?_), ?_⟩
  · rw [u64_of_i64 _ (by omega) (by omega)]; omega
  · exact ((Below.refl _ _).alloc (Nat.le_refl _) _).alloc (by simp) _

theorem absSec_some (wl ex : Int) (C L Z : Nat) (nm : ByteArray) (off : Int) (w : World) (h0 : 0 ≤ wl) (h1 : wl < 1073741824) (h2 : -10000000 ≤ ex) (h3 : ex < 1000000000000) (h4 : -100000 ≤ off) (h5 : off ≤ 100000) (hp : PlaceAt w C L Z nm off) :
    Calls Tryz.prog 83 #[.agg #[.int .u64 wl, .int .i64 ex, .pointer (some ⟨L, 0, none⟩)]] w fun e w' => e = .returned (.int .u64 (ex + off + 9223371966606163200)) ∧ Below w.heap.size w w' := by
  obtain ⟨c0, c1, c2, c5, c6, c7, z0, z1, z2, l', z', b'⟩ := hp
  have l : L < w.heap.size := Nat.lt_of_lt_of_le l' b'
  have z : Z < w.heap.size := Nat.lt_of_lt_of_le z' b'
  clear l' z' b'
  go_enter Tryz.func83, Tryz.ntmps83
  go_wp2_with (first | (go_at_call 98; refine (unixSec_any _ wl ex _ h0 h1 h2 h3 (by go_simp) (by go_simp)).mono ?_; rintro e w' ⟨rfl, rfl⟩))
  go_ret
  refine ⟨congrArg _ (int_eq ?_), ?_⟩
  · rw [u64_of_i64 _ (by omega) (by omega)]; omega
  · exact ((Below.refl _ _).alloc (Nat.le_refl _) _)

/-- the name, the offset and the absolute seconds of a time. -/
theorem locabs_nil (wl ex : Int) (w : World) (h0 : 0 ≤ wl) (h1 : wl < 1073741824) (h2 : -10000000 ≤ ex) (h3 : ex < 1000000000000) :
    Calls Tryz.prog 108 #[.agg #[.int .u64 wl, .int .i64 ex, .pointer none]] w fun e w' => e = .returned (.tuple #[.string utcS, .int .i64 0, .int .u64 (ex + 9223371966606163200)]) ∧ Below w.heap.size w w' := by
  go_enter Tryz.func108, Tryz.ntmps108
  go_wp2_with (first | (go_at_call 80; refine (get_nil _).mono ?_; rintro e w' ⟨rfl, rfl⟩) | (go_at_call 98; refine (unixSec_any _ wl ex _ h0 h1 h2 h3 (by go_simp) (by go_simp)).mono ?_; rintro e w' ⟨rfl, rfl⟩))
  go_ret3
  refine ⟨tup3 rfl rfl (int_eq ?_), ?_⟩
  · rw [u64_of_i64 _ (by omega) (by omega)]; omega
  · exact ((Below.refl _ _).alloc (Nat.le_refl _) _).alloc (by simp) _

theorem locabs_some (wl ex : Int) (C L Z : Nat) (nm : ByteArray) (off : Int) (w : World) (h0 : 0 ≤ wl) (h1 : wl < 1073741824) (h2 : -10000000 ≤ ex) (h3 : ex < 1000000000000) (h4 : -100000 ≤ off) (h5 : off ≤ 100000) (hp : PlaceAt w C L Z nm off) :
    Calls Tryz.prog 108 #[.agg #[.int .u64 wl, .int .i64 ex, .pointer (some ⟨L, 0, none⟩)]] w fun e w' => e = .returned (.tuple #[.string nm, .int .i64 off, .int .u64 (ex + off + 9223371966606163200)]) ∧ Below w.heap.size w w' := by
  obtain ⟨c0, c1, c2, c5, c6, c7, z0, z1, z2, l', z', b'⟩ := hp
  have l : L < w.heap.size := Nat.lt_of_lt_of_le l' b'
  have z : Z < w.heap.size := Nat.lt_of_lt_of_le z' b'
  clear l' z' b'
  go_enter Tryz.func108, Tryz.ntmps108
  go_wp2_with (first | (go_at_call 98; refine (unixSec_any _ wl ex _ h0 h1 h2 h3 (by go_simp) (by go_simp)).mono ?_; rintro e w' ⟨rfl, rfl⟩))
  go_ret3
  refine ⟨tup3 rfl rfl (int_eq ?_), ?_⟩
  · rw [u64_of_i64 _ (by omega) (by omega)]; omega
  · exact ((Below.refl _ _).alloc (Nat.le_refl _) _)

/-- a time that reads, at its place, as the absolute second A, with this name and this offset. -/
structure TimeAt (w : World) (C : Nat) (wl ex : Int) (lc : Option Addr) (A : Int) (nm : ByteArray) (off : Int) : Prop where
  w0 : 0 ≤ wl
  w1 : wl < 1073741824
  e0 : -10000000 ≤ ex
  e1 : ex < 1000000000000
  o0 : -100000 ≤ off
  o1 : off ≤ 100000
  a : A = ex + off + 9223371966606163200
  at_ : (lc = none ∧ nm = utcS ∧ off = 0) ∨ ∃ L Z, lc = some ⟨L, 0, none⟩ ∧ PlaceAt w C L Z nm off
  b : C ≤ w.heap.size
  d : InDays (A / 86400)
  dm : 106751990354000 ≤ A / 86400 ∧ A / 86400 < 106751994900000

theorem TimeAt.below {w w' : World} {C : Nat} {wl ex : Int} {lc : Option Addr} {A : Int} {nm : ByteArray} {off : Int} {B : Nat} (h : TimeAt w C wl ex lc A nm off) (hb : Below B w w') (hB : C ≤ B) : TimeAt w' C wl ex lc A nm off :=
  ⟨h.w0, h.w1, h.e0, h.e1, h.o0, h.o1, h.a, h.at_.imp id fun ⟨L, Z, e, hp⟩ => ⟨L, Z, e, hp.below hb hB⟩, Nat.le_trans h.b hb.size, h.d, h.dm⟩

theorem absSec_any {wl ex : Int} {lc : Option Addr} {A : Int} {nm : ByteArray} {off : Int} {w : World} {C : Nat} (h : TimeAt w C wl ex lc A nm off) :
    Calls Tryz.prog 83 #[.agg #[.int .u64 wl, .int .i64 ex, .pointer lc]] w fun e w' => e = .returned (.int .u64 A) ∧ Below w.heap.size w w' := by
  obtain ⟨w0, w1, e0, e1, o0, o1, rfl, hat, _, _, _⟩ := h
  rcases hat with ⟨rfl, rfl, rfl⟩ | ⟨L, Z, rfl, hp⟩
  · simpa using absSec_nil wl ex w w0 w1 e0 e1
  · exact absSec_some wl ex C L Z nm off w w0 w1 e0 e1 o0 o1 hp

theorem locabs_any {wl ex : Int} {lc : Option Addr} {A : Int} {nm : ByteArray} {off : Int} {w : World} {C : Nat} (h : TimeAt w C wl ex lc A nm off) :
    Calls Tryz.prog 108 #[.agg #[.int .u64 wl, .int .i64 ex, .pointer lc]] w fun e w' => e = .returned (.tuple #[.string nm, .int .i64 off, .int .u64 A]) ∧ Below w.heap.size w w' := by
  obtain ⟨w0, w1, e0, e1, o0, o1, rfl, hat, _, _, _⟩ := h
  rcases hat with ⟨rfl, rfl, rfl⟩ | ⟨L, Z, rfl, hp⟩
  · simpa using locabs_nil wl ex w w0 w1 e0 e1
  · exact locabs_some wl ex C L Z nm off w w0 w1 e0 e1 o0 o1 hp

end Go.Proofs.YtkcgngpoegglnaaGreatDoor
end
/- Contracts of the methods of a time that hand back a number. -/
section
namespace Go.Proofs.YtkcgngpoegglnaaGreatDoor
open Go Go.RowKit
set_option linter.unusedVariables false

section
variable {wl ex : Int} {lc : Option Addr} {A : Int} {nm : ByteArray} {off : Int} {w : World} {C : Nat}

theorem TimeAt.bd (h : TimeAt w C wl ex lc A nm off) : 0 ≤ A ∧ A < 18446744073709551616 := by
  have := h.a; have := h.e0; have := h.e1; have := h.o0; have := h.o1; omega

theorem TimeAt.dbd (h : TimeAt w C wl ex lc A nm off) : 0 ≤ A / 86400 ∧ A / 86400 < 1125899906842624 := by
  have := h.bd; omega

theorem TimeAt.alloc (h : TimeAt w C wl ex lc A nm off) (o : Obj) : TimeAt (w.alloc o) C wl ex lc A nm off := h.below ((Below.refl _ _).alloc (Nat.le_refl _) o) h.b

theorem weekday_of (h : TimeAt w C wl ex lc A nm off) :
    Calls Tryz.prog 53 #[.agg #[.int .u64 wl, .int .i64 ex, .pointer lc]] w fun e w' => e = .returned (.int .i64 ((A / 86400 + 3) % 7)) ∧ Below w.heap.size w w' := by
  have b := h.bd
  have d := h.dbd
  go_enter Tryz.func53, Tryz.ntmps53
  go_wp2_with (first | (go_at_call 83; refine (absSec_any (h.alloc _)).mono ?_; rintro e w1 ⟨rfl, hb⟩) | (go_at_call 84; refine (days_any _ _ (by omega) (by omega)).mono ?_; rintro e w' ⟨rfl, rfl⟩) | (go_at_call 85; refine (weekday_any _ _ (by omega) (by omega)).mono ?_; rintro e w' ⟨rfl, rfl⟩))
  go_ret
  exact ⟨rfl, ((Below.refl _ _).alloc (Nat.le_refl _) _).trans (hb.mono (by simp))⟩

theorem month_of (h : TimeAt w C wl ex lc A nm off) :
    Calls Tryz.prog 55 #[.agg #[.int .u64 wl, .int .i64 ex, .pointer lc]] w fun e w' => e = .returned (.int .i64 (monthF (A / 86400))) ∧ Below w.heap.size w w' := by
  have b := h.bd
  have d := h.dbd
  have ca := cen_bd h.d
  have ya := cyr_bd (A / 86400)
  have aa := ayd_bd (A / 86400)
  have ja := jf_bd (aydF (A / 86400))
  have ma := am_bd (A / 86400)
  go_enter Tryz.func55, Tryz.ntmps55
  go_wp2_with (first | (go_at_call 83; refine (absSec_any (h.alloc _)).mono ?_; rintro e w1 ⟨rfl, hb⟩) | (go_at_call 84; refine (days_any _ _ (by omega) (by omega)).mono ?_; rintro e w' ⟨rfl, rfl⟩) | (go_at_call 88; refine (split_any _ _ (by omega) (by omega)).mono ?_; rintro e w' ⟨rfl, rfl⟩) | (go_at_call 89; refine (absplit_any _ _ (by omega) (by omega)).mono ?_; rintro e w' ⟨rfl, rfl⟩) | (go_at_call 91; refine (janFeb_any _ _ (by omega) (by omega)).mono ?_; rintro e w' ⟨rfl, rfl⟩) | (go_at_call 90; refine (month_any _ _ _ (by omega) (by omega) (by omega) (by omega)).mono ?_; rintro e w' ⟨rfl, rfl⟩))
  go_ret
  exact ⟨rfl, ((Below.refl _ _).alloc (Nat.le_refl _) _).trans (hb.mono (by simp))⟩

theorem day_of (h : TimeAt w C wl ex lc A nm off) :
    Calls Tryz.prog 58 #[.agg #[.int .u64 wl, .int .i64 ex, .pointer lc]] w fun e w' => e = .returned (.int .i64 (dayF (A / 86400))) ∧ Below w.heap.size w w' := by
  have b := h.bd
  have d := h.dbd
  have ca := cen_bd h.d
  have ya := cyr_bd (A / 86400)
  have aa := ayd_bd (A / 86400)
  have ja := jf_bd (aydF (A / 86400))
  have ma := am_bd (A / 86400)
  go_enter Tryz.func58, Tryz.ntmps58
  go_wp2_with (first | (go_at_call 83; refine (absSec_any (h.alloc _)).mono ?_; rintro e w1 ⟨rfl, hb⟩) | (go_at_call 84; refine (days_any _ _ (by omega) (by omega)).mono ?_; rintro e w' ⟨rfl, rfl⟩) | (go_at_call 88; refine (split_any _ _ (by omega) (by omega)).mono ?_; rintro e w' ⟨rfl, rfl⟩) | (go_at_call 89; refine (absplit_any _ _ (by omega) (by omega)).mono ?_; rintro e w' ⟨rfl, rfl⟩))
  go_ret
  exact ⟨rfl, ((Below.refl _ _).alloc (Nat.le_refl _) _).trans (hb.mono (by simp))⟩

theorem hour_of (h : TimeAt w C wl ex lc A nm off) :
    Calls Tryz.prog 60 #[.agg #[.int .u64 wl, .int .i64 ex, .pointer lc]] w fun e w' => e = .returned (.int .i64 (A % 86400 / 3600)) ∧ Below w.heap.size w w' := by
  have b := h.bd
  have d := h.dbd
  go_enter Tryz.func60, Tryz.ntmps60
  go_wp2_with (first | (go_at_call 83; refine (absSec_any (h.alloc _)).mono ?_; rintro e w1 ⟨rfl, hb⟩))
  go_ret
  exact ⟨rfl, ((Below.refl _ _).alloc (Nat.le_refl _) _).trans (hb.mono (by simp))⟩

theorem minute_of (h : TimeAt w C wl ex lc A nm off) :
    Calls Tryz.prog 61 #[.agg #[.int .u64 wl, .int .i64 ex, .pointer lc]] w fun e w' => e = .returned (.int .i64 (A % 3600 / 60)) ∧ Below w.heap.size w w' := by
  have b := h.bd
  have d := h.dbd
  go_enter Tryz.func61, Tryz.ntmps61
  go_wp2_with (first | (go_at_call 83; refine (absSec_any (h.alloc _)).mono ?_; rintro e w1 ⟨rfl, hb⟩))
  go_ret
  exact ⟨rfl, ((Below.refl _ _).alloc (Nat.le_refl _) _).trans (hb.mono (by simp))⟩

theorem second_of (h : TimeAt w C wl ex lc A nm off) :
    Calls Tryz.prog 62 #[.agg #[.int .u64 wl, .int .i64 ex, .pointer lc]] w fun e w' => e = .returned (.int .i64 (A % 60)) ∧ Below w.heap.size w w' := by
  have b := h.bd
  have d := h.dbd
  go_enter Tryz.func62, Tryz.ntmps62
  go_wp2_with (first | (go_at_call 83; refine (absSec_any (h.alloc _)).mono ?_; rintro e w1 ⟨rfl, hb⟩))
  go_ret
  exact ⟨rfl, ((Below.refl _ _).alloc (Nat.le_refl _) _).trans (hb.mono (by simp))⟩

theorem yearDay_of (h : TimeAt w C wl ex lc A nm off) :
    Calls Tryz.prog 73 #[.agg #[.int .u64 wl, .int .i64 ex, .pointer lc]] w fun e w' => e = .returned (.int .i64 (ydayF (A / 86400))) ∧ Below w.heap.size w w' := by
  have b := h.bd
  have d := h.dbd
  go_enter Tryz.func73, Tryz.ntmps73
  go_wp2_with (first | (go_at_call 83; refine (absSec_any (h.alloc _)).mono ?_; rintro e w1 ⟨rfl, hb⟩) | (go_at_call 84; refine (days_any _ _ (by omega) (by omega)).mono ?_; rintro e w' ⟨rfl, rfl⟩) | (go_at_call 97; refine (yearYday_any _ _ h.d).mono ?_; rintro e w' ⟨rfl, rfl⟩))
  go_ret
  exact ⟨rfl, ((Below.refl _ _).alloc (Nat.le_refl _) _).trans (hb.mono (by simp))⟩

theorem year_of (h : TimeAt w C wl ex lc A nm off) :
    Calls Tryz.prog 95 #[.agg #[.int .u64 wl, .int .i64 ex, .pointer lc]] w fun e w' => e = .returned (.int .i64 (yearF (A / 86400))) ∧ Below w.heap.size w w' := by
  have b := h.bd
  have d := h.dbd
  have ca := cen_bd h.d
  have ya := cyr_bd (A / 86400)
  have aa := ayd_bd (A / 86400)
  have ja := jf_bd (aydF (A / 86400))
  have ma := am_bd (A / 86400)
  go_enter Tryz.func95, Tryz.ntmps95
  go_wp2_with (first | (go_at_call 83; refine (absSec_any (h.alloc _)).mono ?_; rintro e w1 ⟨rfl, hb⟩) | (go_at_call 84; refine (days_any _ _ (by omega) (by omega)).mono ?_; rintro e w' ⟨rfl, rfl⟩) | (go_at_call 88; refine (split_any _ _ (by omega) (by omega)).mono ?_; rintro e w' ⟨rfl, rfl⟩) | (go_at_call 91; refine (janFeb_any _ _ (by omega) (by omega)).mono ?_; rintro e w' ⟨rfl, rfl⟩) | (go_at_call 116; refine (year_any _ _ _ _ (by omega) (by omega) (by omega) (by omega) (by omega) (by omega)).mono ?_; rintro e w' ⟨rfl, rfl⟩))
  go_ret
  exact ⟨rfl, ((Below.refl _ _).alloc (Nat.le_refl _) _).trans (hb.mono (by simp))⟩

theorem ydayF_bd (D : Int) : 1 ≤ ydayF D ∧ ydayF D ≤ 366 := by
  have a := ayd_bd D
  have l : leapF (cenF D) (cyrF D) = 0 ∨ leapF (cenF D) (cyrF D) = 1 := by unfold leapF; split <;> simp
  unfold ydayF jfY
  split
  · rcases l with l | l <;> rw [l] <;> omega
  · rcases l with l | l <;> rw [l] <;> omega

/-- the Thursday of a day's week. -/
def thuF (D : Int) : Int := D + 3 - (D + 2) % 7

theorem iso_of (h : TimeAt w C wl ex lc A nm off) :
    Calls Tryz.prog 68 #[.agg #[.int .u64 wl, .int .i64 ex, .pointer lc]] w fun e w' => e = .returned (.tuple #[.int .i64 (yearF (thuF (A / 86400))), .int .i64 ((ydayF (thuF (A / 86400)) - 1) / 7 + 1)]) ∧ Below w.heap.size w w' := by
  have b := h.bd
  have d := h.dbd
  have dm := h.dm
  have y := ydayF_bd (thuF (A / 86400))
  have hT : InDays (thuF (A / 86400)) := by unfold InDays thuF; omega
  have e1 : IntKind.u64.wrap (A / 86400 + IntKind.u64.wrap (4 - ((A / 86400 - 1 + 3) % 7 + 1))) = thuF (A / 86400) := by
    unfold thuF
    simp only [IntKind.wrap_u64]
    omega
  go_enter Tryz.func68, Tryz.ntmps68
  go_wp2_with (first | (go_at_call 83; refine (absSec_any (h.alloc _)).mono ?_; rintro e w1 ⟨rfl, hb⟩) | (go_at_call 84; refine (days_any _ _ (by omega) (by omega)).mono ?_; rintro e w' ⟨rfl, rfl⟩) | (go_at_call 85; refine (weekday_any _ _ (by omega) (by omega)).mono ?_; rintro e w' ⟨rfl, rfl⟩) | (go_at_call 97; refine (yearYday_any _ _ hT).mono ?_; rintro e w' ⟨rfl, rfl⟩))
  go_ret2
  exact ⟨rfl, ((Below.refl _ _).alloc (Nat.le_refl _) _).trans (hb.mono (by simp))⟩
end
end Go.Proofs.YtkcgngpoegglnaaGreatDoor
end
