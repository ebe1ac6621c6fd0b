/- The first package: the functions that append a directive's text. -/
import Derived.Lib.AppendIntMem
import Derived.Test.YtkcgngpoegglnaaGreatDoorShelf
import Derived.Test.YtkcgngpoegglnaaGreatDoorM22
import Derived.Test.YtkcgngpoegglnaaGreatDoorM30
import Derived.Test.YtkcgngpoegglnaaGreatDoorM14
import Derived.Test.YtkcgngpoegglnaaGreatDoorM05
namespace Go.Proofs.YtkcgngpoegglnaaGreatDoor
open Go Go.RowKit
set_option linter.unusedVariables false
set_option linter.unusedSimpArgs false

/-- the table of the powers of ten. -/
abbrev Pow10 (w : World) : Prop := Lib.TabIs Tryz.prog w "internal/strconv.uint64pow10" .u64 Lib.pow10Tab

/-- what a run reads and never writes. -/
structure Env (w : World) (C : Nat) (wl ex : Int) (lc : Option Addr) (A : Int) (nm : ByteArray) (off : Int) : Prop where
  tm : TimeAt w C wl ex lc A nm off
  x : Std0x w
  tab : ∀ w', Below C w w' → Pow10 w'
  c1 : 2 ≤ C

theorem Env.below {w w' : World} {C : Nat} {wl ex : Int} {lc : Option Addr} {A : Int} {nm : ByteArray} {off : Int} (h : Env w C wl ex lc A nm off) (hb : Below C w w') : Env w' C wl ex lc A nm off :=
  ⟨h.tm.below hb (Nat.le_refl _), std0x_below h.x hb (by have := h.c1; omega), fun w2 hb2 => h.tab w2 (hb.trans hb2), h.c1⟩

theorem Env.up {w w' : World} {C : Nat} {wl ex : Int} {lc : Option Addr} {A : Int} {nm : ByteArray} {off : Int} (h : Env w C wl ex lc A nm off) (hb : Below w.heap.size w w') : Env w' C wl ex lc A nm off := h.below (hb.mono h.tm.b)

theorem below_grow (w : World) (k : Nat) (os : Array Obj) : Below w.heap.size w (Go.Sort.grow (w.drewN k) os) := by
  refine ⟨rfl, rfl, rfl, by simp [Go.Sort.grow], fun i hi => ?_⟩
  show (w.heap ++ os)[i]? = _
  rw [Array.getElem?_append_left hi]

theorem dec_lt (n : Nat) (h : n < 10) : Lib.decDigits n = [dg n] := by
  rw [Lib.decDigits, dif_pos h]; rfl
theorem dec_two (n : Nat) (h0 : 10 ≤ n) (h : n < 100) : Lib.decDigits n = [dg ((n : Int) / 10), dg ((n : Int) % 10)] := by
  rw [Lib.decDigits, dif_neg (by omega), dec_lt _ (by omega)]
  unfold dg
  simp only [List.cons_append, List.nil_append, List.cons.injEq, and_true]
  constructor <;> (congr 1 <;> omega)
theorem dec_three (n : Nat) (h0 : 100 ≤ n) (h : n < 1000) : Lib.decDigits n = [dg ((n : Int) / 100), dg ((n : Int) / 10 % 10), dg ((n : Int) % 10)] := by
  rw [Lib.decDigits, dif_neg (by omega), dec_two _ (by omega) (by omega)]
  unfold dg
  simp only [List.cons_append, List.nil_append, List.cons.injEq, and_true]
  refine ⟨?_, ?_, ?_⟩ <;> (congr 1 <;> omega)

/-- the numeral of a small number. -/
def num3 (n : Int) : List UInt8 := if n < 10 then [dg n] else if n < 100 then [dg (n / 10), dg (n % 10)] else [dg (n / 100), dg (n / 10 % 10), dg (n % 10)]

theorem itoa_any (n : Int) (w : World) (h0 : 0 ≤ n) (h1 : n < 1000) (ht : Pow10 w) : Calls Tryz.prog 186 #[.int .i64 n] w fun e w' => e = .returned (.string (bs (num3 n))) ∧ Below w.heap.size w w' := by
  refine (strconv_Itoa n (by omega) (by omega) w ht).mono ?_
  rintro e w' ⟨rfl, k, os, rfl⟩
  refine ⟨?_, below_grow w k os⟩
  obtain ⟨m, rfl⟩ := Int.eq_ofNat_of_zero_le h0
  have e : Lib.itoa (m : Int) = num3 m := by
    unfold Lib.itoa num3
    rw [if_neg (by omega), Int.toNat_natCast]
    by_cases a : m < 10
    · rw [if_pos (by omega), dec_lt m a]
    · by_cases b : m < 100
      · rw [if_neg (by omega), if_pos (by omega), dec_two m (by omega) b]
      · rw [if_neg (by omega), if_neg (by omega), dec_three m (by omega) (by omega)]
  rw [e]; rfl

theorem num3_len (n : Int) : (num3 n).length ≤ 3 := by unfold num3; split; · simp
                                                       · split <;> simp

section
variable {w : World} {C : Nat} {wl ex : Int} {lc : Option Addr} {A : Int} {nm : ByteArray} {off : Int} {g : Nat} {v : Value} {out : List UInt8}

theorem wd_any (n : Int) (hn : n = 0 ∨ n = 1) (h : Env w C wl ex lc A nm off) (hB : Buf w g v out) (hl : out.length ≤ 400000) (x : Int) (hx : x = if (A / 86400 + 3) % 7 < n then (A / 86400 + 3) % 7 + 7 else (A / 86400 + 3) % 7) :
    Calls Tryz.prog 224 #[.int .i64 n, v, .agg #[.int .u64 wl, .int .i64 ex, .pointer lc]] w (AppPost w g (out ++ [dg x])) := by
  have hlt := hB.lt
  have hw : 0 ≤ (A / 86400 + 3) % 7 ∧ (A / 86400 + 3) % 7 ≤ 6 := by omega
  have H := fun o => weekday_of (h.tm.alloc o)
  generalize (A / 86400 + 3) % 7 = wd at *
  by_cases hc : wd < n
  · rw [if_pos hc] at hx
    subst hx
    have hd : Value.int .u8 (wd + 7 + 48) = bv (dg (wd + 7)) := by rw [← bv_dg _ (by omega) (by omega)]; congr 1; omega
    have HD := Lib.hid hd
    clear hd
    go_enter Tryz.func224, Tryz.ntmps224
    go_wp2_with (first | (go_at_call 53; refine (H _).mono ?_; rintro e w1 ⟨rfl, hb⟩) | (at_builtin; refine wpList_append_buf rfl _ _ 34 rfl (by go_simp) (by go_simp) (((hB.alloc _).below hb (by simp; omega)).alloc _) (bytesIn_new1 _ (dg (wd + 7)) _ HD.out) (by simp; omega) ?_; intro g' v' w2 happ))
    go_ret
    exact ⟨g', v', rfl, (happ.pre ((Below.refl _ _).alloc (Nat.le_refl _) _)).pre (((Below.refl _ _).alloc (Nat.le_refl _) _).trans (hb.mono (by simp)))⟩
  · rw [if_neg hc] at hx
    subst hx
    have hd : Value.int .u8 (x + 48) = bv (dg x) := by rw [← bv_dg _ (by omega) (by omega)]; congr 1; omega
    have HD := Lib.hid hd
    clear hd
    go_enter Tryz.func224, Tryz.ntmps224
    go_wp2_with (first | (go_at_call 53; refine (H _).mono ?_; rintro e w1 ⟨rfl, hb⟩) | (at_builtin; refine wpList_append_buf rfl _ _ 34 rfl (by go_simp) (by go_simp) (((hB.alloc _).below hb (by simp; omega)).alloc _) (bytesIn_new1 _ (dg x) _ HD.out) (by simp; omega) ?_; intro g' v' w2 happ))
    go_ret
    exact ⟨g', v', rfl, (happ.pre ((Below.refl _ _).alloc (Nat.le_refl _) _)).pre (((Below.refl _ _).alloc (Nat.le_refl _) _).trans (hb.mono (by simp)))⟩

theorem std_any (h : Env w C wl ex lc A nm off) (hO : OkTime nm off A) (ats : List Atom) (has : okLay ats) (hn : (lay ats).length ≤ 1000) (h1 : g ≠ 1) (hB : Buf w g v out) (hl : (out ++ layText A nm off ats).length ≤ 400000) :
    Calls Tryz.prog 225 #[.agg #[.string (bs (lay ats))], v, .agg #[.int .u64 wl, .int .i64 ex, .pointer lc]] w (AppPost w g (out ++ layText A nm off ats)) := by
  have H := fun o o' => AppendFormat_any ((h.tm.alloc o).alloc o') hO ats has hn (std0x_below (std0x_below h.x ((Below.refl _ _).alloc (Nat.le_refl _) o) (std0x_lt h.x)) ((Below.refl _ _).alloc (Nat.le_refl _) o') (by have := std0x_lt h.x; simp; omega)) v g out h1 ((hB.alloc o).alloc o') (by omega) _ rfl
  generalize bs (lay ats) = s at *
  go_enter Tryz.func225, Tryz.ntmps225
  go_wp2_with (first | (go_at_call 64; refine (H _ _).mono ?_; rintro e w1 ⟨g', v', rfl, happ⟩))
  go_ret
  exact ⟨g', v', rfl, happ.pre (((Below.refl _ _).alloc (Nat.le_refl _) _).alloc (by simp) _)⟩

theorem verb_any (s : List UInt8) (t : Value) (ht : t = .agg #[.int .u64 wl, .int .i64 ex, .pointer lc]) (hB : Buf w g v out) (hl : (out ++ s).length ≤ 400000) :
    Calls Tryz.prog 229 #[.agg #[.string (bs s)], v, t] w (AppPost w g (out ++ s)) := by
  subst ht
  rw [List.length_append] at hl
  go_enter Tryz.func229, Tryz.ntmps229
  go_wp2_with (first | (at_builtin; refine wpList_append_buf (y := .string (bs s)) (news := s) rfl _ _ 9 rfl (by go_simp) (by go_simp) ((hB.alloc _).alloc _) (bytesIn_bs _ s) (by omega) ?_; intro g' v' w2 happ))
  go_ret
  exact ⟨g', v', rfl, happ.pre (((Below.refl _ _).alloc (Nat.le_refl _) _).alloc (by simp) _)⟩
end
end Go.Proofs.YtkcgngpoegglnaaGreatDoor
