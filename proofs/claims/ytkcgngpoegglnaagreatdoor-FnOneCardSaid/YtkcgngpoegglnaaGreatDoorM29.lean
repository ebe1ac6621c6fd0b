/- The printing of a time by a layout: a whole round; and the round behind the last element. -/
import Derived.Test.YtkcgngpoegglnaaGreatDoorM14
import Derived.Test.YtkcgngpoegglnaaGreatDoorM26
import Derived.Test.YtkcgngpoegglnaaGreatDoorM27
import Derived.Test.YtkcgngpoegglnaaGreatDoorM28
namespace Go.Proofs.YtkcgngpoegglnaaGreatDoor
open Go Go.RowKit
set_option linter.unusedVariables false
set_option linter.unusedSimpArgs false

/-- a time that can be printed. -/
structure OkTime (nm : ByteArray) (off A : Int) : Prop where
  d : InDays (A / 86400)
  a0 : 0 ≤ A
  a1 : A < 18446744073709551616
  d1 : A / 86400 < 1000000000000000000
  y0 : 0 ≤ yearF (A / 86400)
  y1 : yearF (A / 86400) ≤ 9999
  n : ∃ (c : UInt8) (q : List UInt8), nm = bs (c :: q) ∧ q.length ≤ 100
  o : off % 60 = 0
  o0 : -86400 ≤ off
  o1 : off ≤ 86400

theorem monthF_bd (D : Int) : 1 ≤ monthF D ∧ monthF D ≤ 12 := by
  have a := ayd_bd D
  unfold monthF amY jfY
  split <;> omega
theorem dayF_bd (D : Int) : 1 ≤ dayF D ∧ dayF D ≤ 31 := by
  have a := ayd_bd D
  unfold dayF mdY
  generalize aydF D = y at *
  have h2 : (2141 * y + 197913) % 65536 < 65536 ∧ 0 ≤ (2141 * y + 197913) % 65536 := by omega
  omega

theorem piece_tz (t : Array Value) (v : Value) (l : List UInt8) (nm : ByteArray) (off A : Int) (dy yy ck : Bool) (g : Nat) (out : List UInt8) (cs : List Code) (w : World) (Q : Exit → Act → World → Prop)
    (ho : off % 60 = 0) (ho0 : -86400 ≤ off) (ho1 : off ≤ 86400) (hB : Buf w g v out) (hlen : out.length ≤ 600000) (ht : FmtT t v l nm off A dy yy ck) (hs : ∀ h : 19 < t.size, t[19]'h = .int .i64 29)
    (hK : ∀ (t' : Array Value) (g' : Nat) (v' : Value) (w' : World), Appended w g (out ++ El.text A nm off .tz) g' v' w' → FmtT t' v' l nm off A dy yy ck → wpL Tryz.prog cs Q ⟨t', []⟩ w') :
    wpL Tryz.prog (fp 12 :: fp 13 :: cs) Q ⟨t, []⟩ w := by
  obtain ⟨k, hk⟩ : ∃ k, off = 60 * k := ⟨off / 60, by omega⟩
  by_cases h0 : k < 0
  · refine piece_tzN t v l nm off A dy yy ck g out cs w Q (-k) (by omega) (by omega) (by omega) (by omega) (Int.tdiv_eq_ediv_of_nonneg (by omega)) (Int.tmod_eq_emod_of_nonneg (by omega)) (Int.mul_tdiv_cancel_left _ (by decide)) ?_ hB hlen ht hs hK
    unfold offText
    rw [if_pos (by omega)]
    have a1 : -(-(60 * -k)) / 3600 = -k / 60 := by omega
    have a2 : -(-(60 * -k)) / 60 % 60 = -k % 60 := by omega
    rw [a1, a2]
  · by_cases h1 : k = 0
    · exact piece_tz0 t v l nm off A dy yy ck g out cs w Q (by omega) rfl hB hlen ht hs hK
    · refine piece_tzP t v l nm off A dy yy ck g out cs w Q k hk (by omega) h1 (by omega) (Int.tdiv_eq_ediv_of_nonneg (by omega)) (Int.tmod_eq_emod_of_nonneg (by omega)) (Int.mul_tdiv_cancel_left _ (by decide)) ?_ hB hlen ht hs hK
      unfold offText
      rw [if_neg (by omega)]
      have a1 : 60 * k / 3600 = k / 60 := by omega
      have a2 : 60 * k / 60 % 60 = k % 60 := by omega
      rw [a1, a2]

theorem fmt_round (t : Array Value) (v : Value) (l : List UInt8) (nm : ByteArray) (off A : Int) (dy yy ck : Bool) (n : Nat) (el : El) (r : List UInt8) (g : Nat) (out : List UInt8) (w : World) (Q : Exit → Act → World → Prop)
    (hO : OkTime nm off A) (hl : l.length ≤ 1000) (hn : n ≤ l.length) (hp : OkPre n l) (hd : l.drop n = el.bytes ++ r) (hf : el.Follow r) (hx : Std0x w) (hB : Buf w g v out) (hlen : out.length ≤ 500000) (ht : FmtT t v l nm off A dy yy ck)
    (hK : ∀ (t' : Array Value) (g' : Nat) (v' : Value) (w' : World) (dy' yy' ck' : Bool), Appended w g (out ++ l.take n ++ el.text A nm off) g' v' w' → FmtT t' v' r nm off A dy' yy' ck' → Q .normal ⟨t', []⟩ w') :
    wpL Tryz.prog fmtPieces Q ⟨t, []⟩ w := by
  obtain ⟨hD, hA0, hA1, hD1, hy0, hy1, ⟨c, q, rfl, hq⟩, ho, ho0, ho1⟩ := hO
  have hm := monthF_bd (A / 86400)
  have hdd := dayF_bd (A / 86400)
  have hyd := ydayF_bd (A / 86400)
  rw [fmtPieces_eq]
  refine piece_chunk t v l _ off A dy yy ck n el r g out _ w Q hl hn hp hd hf hx hB hlen ht fun t1 g1 v1 w1 happ ht1 hs1 => ?_
  refine piece_date t1 v1 r _ off A dy yy ck el.std _ _ w1 Q hD hy0 rfl ht1 hs1 fun t2 ht2 hs2 => ?_
  refine piece_yday t2 v1 r _ off A _ yy ck el.std _ _ w1 Q hD rfl ht2 hs2 fun t3 ht3 hs3 => ?_
  refine piece_clock t3 v1 r _ off A _ _ ck el.std _ _ w1 Q hA0 hA1 rfl ht3 hs3 fun t4 ht4 hs4 => ?_
  have hlen2 : (out ++ l.take n).length ≤ 600000 := by simp; omega
  have hB2 := happ.buf
  have hc0 : 0 ≤ A % 86400 / 3600 ∧ A % 86400 / 3600 ≤ 99 := by omega
  have hc1 : 0 ≤ A % 3600 / 60 ∧ A % 3600 / 60 ≤ 99 := by omega
  have hc2 : 0 ≤ A % 60 ∧ A % 60 ≤ 99 := by omega
  have hw : 0 ≤ (A / 86400 + 3) % 7 ∧ (A / 86400 + 3) % 7 ≤ 6 := by omega
  have hD0 : 0 ≤ A / 86400 := by omega
  have K := fun (t' : Array Value) (g' : Nat) (v' : Value) (w' : World) (dy' yy' ck' : Bool) (ha : Appended w1 g1 (out ++ l.take n ++ el.text A (bs (c :: q)) off) g' v' w') (hf : FmtT t' v' r (bs (c :: q)) off A dy' yy' ck') => hK t' g' v' w' dy' yy' ck' (happ.trans ha) hf
  clear hK
  cases el with
  | january =>
    rw [show (dy || (bits .and .i64 (El.std .january) 256 != 0)) = true by cases dy <;> decide] at ht4
    exact piece_january t4 v1 r _ off A _ _ g1 _ _ w1 Q hm.1 hm.2 hB2 hlen2 ht4 hs4 fun t' g' v' w' ha hf => wpL_nil (K t' g' v' w' _ _ _ ha hf)
  | jan =>
    rw [show (dy || (bits .and .i64 (El.std .jan) 256 != 0)) = true by cases dy <;> decide] at ht4
    exact piece_jan t4 v1 r _ off A _ _ g1 _ _ w1 Q hm.1 hm.2 hB2 hlen2 ht4 hs4 fun t' g' v' w' ha hf => wpL_nil (K t' g' v' w' _ _ _ ha hf)
  | monday => exact piece_monday t4 v1 r _ off A _ _ _ g1 _ _ w1 Q hw.1 hw.2 hD0 hD1 hB2 hlen2 ht4 hs4 fun t' g' v' w' ha hf => wpL_nil (K t' g' v' w' _ _ _ ha hf)
  | mon => exact piece_mon t4 v1 r _ off A _ _ _ g1 _ _ w1 Q hw.1 hw.2 hD0 hD1 hB2 hlen2 ht4 hs4 fun t' g' v' w' ha hf => wpL_nil (K t' g' v' w' _ _ _ ha hf)
  | z1 =>
    rw [show (dy || (bits .and .i64 (El.std .z1) 256 != 0)) = true by cases dy <;> decide] at ht4
    exact piece_z1 t4 v1 r _ off A _ _ g1 _ _ w1 Q (by omega) (by omega) hB2 hlen2 ht4 hs4 fun t' g' v' w' ha hf => wpL_nil (K t' g' v' w' _ _ _ ha hf)
  | z2 =>
    rw [show (dy || (bits .and .i64 (El.std .z2) 256 != 0)) = true by cases dy <;> decide] at ht4
    exact piece_z2 t4 v1 r _ off A _ _ g1 _ _ w1 Q (by omega) (by omega) hB2 hlen2 ht4 hs4 fun t' g' v' w' ha hf => wpL_nil (K t' g' v' w' _ _ _ ha hf)
  | z3 =>
    rw [show (ck || (bits .and .i64 (El.std .z3) 1024 != 0)) = true by cases ck <;> decide] at ht4
    exact piece_z3 t4 v1 r _ off A _ _ g1 _ _ w1 Q hA0 hB2 hlen2 ht4 hs4 fun t' g' v' w' ha hf => wpL_nil (K t' g' v' w' _ _ _ ha hf)
  | z4 =>
    rw [show (ck || (bits .and .i64 (El.std .z4) 1024 != 0)) = true by cases ck <;> decide] at ht4
    exact piece_z4 t4 v1 r _ off A _ _ g1 _ _ w1 Q hc1.1 hc1.2 hB2 hlen2 ht4 hs4 fun t' g' v' w' ha hf => wpL_nil (K t' g' v' w' _ _ _ ha hf)
  | z5 =>
    rw [show (ck || (bits .and .i64 (El.std .z5) 1024 != 0)) = true by cases ck <;> decide] at ht4
    exact piece_z5 t4 v1 r _ off A _ _ g1 _ _ w1 Q hc2.1 hc2.2 hB2 hlen2 ht4 hs4 fun t' g' v' w' ha hf => wpL_nil (K t' g' v' w' _ _ _ ha hf)
  | z6 =>
    rw [show (dy || (bits .and .i64 (El.std .z6) 256 != 0)) = true by cases dy <;> decide] at ht4
    exact piece_z6 t4 v1 r _ off A _ _ g1 _ _ w1 Q (by omega) (by omega) hB2 hlen2 ht4 hs4 fun t' g' v' w' ha hf => wpL_nil (K t' g' v' w' _ _ _ ha hf)
  | z002 =>
    rw [show (yy || (bits .and .i64 (El.std .z002) 512 != 0)) = true by cases yy <;> decide] at ht4
    exact piece_z002 t4 v1 r _ off A _ _ g1 _ _ w1 Q (by omega) (by omega) hB2 hlen2 ht4 hs4 fun t' g' v' w' ha hf => wpL_nil (K t' g' v' w' _ _ _ ha hf)
  | u2 =>
    rw [show (dy || (bits .and .i64 (El.std .u2) 256 != 0)) = true by cases dy <;> decide] at ht4
    exact piece_u2 t4 v1 r _ off A _ _ g1 _ _ w1 Q hdd.1 hdd.2 hB2 hlen2 ht4 hs4 fun t' g' v' w' ha hf => wpL_nil (K t' g' v' w' _ _ _ ha hf)
  | y4 =>
    rw [show (dy || (bits .and .i64 (El.std .y4) 256 != 0)) = true by cases dy <;> decide] at ht4
    exact piece_y4 t4 v1 r _ off A _ _ g1 _ _ w1 Q (by omega) (by omega) hB2 hlen2 ht4 hs4 fun t' g' v' w' ha hf => wpL_nil (K t' g' v' w' _ _ _ ha hf)
  | h15 =>
    rw [show (ck || (bits .and .i64 (El.std .h15) 1024 != 0)) = true by cases ck <;> decide] at ht4
    exact piece_h15 t4 v1 r _ off A _ _ g1 _ _ w1 Q hc0.1 hc0.2 hB2 hlen2 ht4 hs4 fun t' g' v' w' ha hf => wpL_nil (K t' g' v' w' _ _ _ ha hf)
  | pm =>
    rw [show (ck || (bits .and .i64 (El.std .pm) 1024 != 0)) = true by cases ck <;> decide] at ht4
    exact piece_pm t4 v1 r _ off A _ _ g1 _ _ w1 Q hA0 hB2 hlen2 ht4 hs4 fun t' g' v' w' ha hf => wpL_nil (K t' g' v' w' _ _ _ ha hf)
  | mst => exact piece_mst t4 v1 r _ off A _ _ _ g1 _ _ w1 Q c q rfl (by omega) hB2 hlen2 ht4 hs4 fun t' g' v' w' ha hf => wpL_nil (K t' g' v' w' _ _ _ ha hf)
  | tz => exact piece_tz t4 v1 r _ off A _ _ _ g1 _ _ w1 Q ho ho0 ho1 hB2 hlen2 ht4 hs4 fun t' g' v' w' ha hf => wpL_nil (K t' g' v' w' _ _ _ ha hf)
end Go.Proofs.YtkcgngpoegglnaaGreatDoor
