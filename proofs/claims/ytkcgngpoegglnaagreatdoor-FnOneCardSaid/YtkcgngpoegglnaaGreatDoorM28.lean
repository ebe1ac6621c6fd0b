/- The printing of a time by a layout: the last pieces of a round: the elements with names, branches and signs. · The printing of a time by a layout: the last pieces of a round: the elements with names, branches and signs. · The printing of a time by a layout: the last pieces of a round: the elements with names, branches and signs. -/
import Derived.BigGuardPart
import Derived.Test.YtkcgngpoegglnaaGreatDoorM13
import Derived.Test.YtkcgngpoegglnaaGreatDoorM10
/- The printing of a time by a layout: the last pieces of a round: the elements with names, branches and signs. -/
section
namespace Go.Proofs.YtkcgngpoegglnaaGreatDoor
open Go Go.RowKit
set_option linter.unusedVariables false
set_option linter.unusedSimpArgs false

theorem monthName_lenN (m : Int) (h0 : 1 ≤ m) (h1 : m ≤ 12) : 3 ≤ (monthName m).length ∧ (monthName m).length ≤ 9 := by
  have hm : m = 1 ∨ m = 2 ∨ m = 3 ∨ m = 4 ∨ m = 5 ∨ m = 6 ∨ m = 7 ∨ m = 8 ∨ m = 9 ∨ m = 10 ∨ m = 11 ∨ m = 12 := by omega
  rcases hm with rfl | rfl | rfl | rfl | rfl | rfl | rfl | rfl | rfl | rfl | rfl | rfl <;> decide
theorem tz_factsN (off : Int) (ho : off % 60 = 0) (ho0 : -86400 ≤ off) (ho1 : off ≤ 86400) :
    (∃ k m : Int, off.tdiv 60 = k ∧ k < 0 ∧ IntKind.i64.wrap (-k) = m ∧ IntKind.i64.wrap (-off) = -off ∧ m.tdiv 60 = m / 60 ∧ m.tmod 60 = m % 60 ∧ 0 ≤ m / 60 ∧ m / 60 ≤ 99 ∧ 0 ≤ m % 60 ∧ m % 60 ≤ 99 ∧ offText off = 45 :: (d2 (m / 60) ++ d2 (m % 60)) ∧ off ≠ 0) ∨
    (∃ k : Int, off.tdiv 60 = k ∧ 0 ≤ k ∧ k.tdiv 60 = k / 60 ∧ k.tmod 60 = k % 60 ∧ 0 ≤ k / 60 ∧ k / 60 ≤ 99 ∧ 0 ≤ k % 60 ∧ k % 60 ≤ 99 ∧ offText off = 43 :: (d2 (k / 60) ++ d2 (k % 60)) ∧ off ≠ 0) ∨ off = 0 := by
  obtain ⟨k, rfl⟩ : ∃ k, off = 60 * k := ⟨off / 60, by omega⟩
  have hq : (60 * k).tdiv 60 = k := Int.mul_tdiv_cancel_left k (by decide)
  rcases Decidable.em (k < 0) with h0 | h0
  · refine .inl ⟨k, -k, hq, h0, IntWalk.i64_in _ (by omega), IntWalk.i64_in _ (by omega), Int.tdiv_eq_ediv_of_nonneg (by omega), Int.tmod_eq_emod_of_nonneg (by omega), by omega, by omega, by omega, by omega, ?_, by omega⟩
    unfold offText
    rw [if_pos (by omega)]
    have a1 : -(60 * k) / 3600 = -k / 60 := by omega
    have a2 : -(60 * k) / 60 % 60 = -k % 60 := by omega
    rw [a1, a2]
  · rcases Decidable.em (k = 0) with rfl | hk0
    · exact .inr (.inr rfl)
    refine .inr (.inl ⟨k, hq, by omega, Int.tdiv_eq_ediv_of_nonneg (by omega), Int.tmod_eq_emod_of_nonneg (by omega), by omega, by omega, by omega, by omega, ?_, by omega⟩)
    unfold offText
    rw [if_neg (by omega)]
    have a1 : 60 * k / 3600 = k / 60 := by omega
    have a2 : 60 * k / 60 % 60 = k % 60 := by omega
    rw [a1, a2]
theorem dayName_lenN (m : Int) (h0 : 0 ≤ m) (h1 : m ≤ 6) : 3 ≤ (dayName m).length ∧ (dayName m).length ≤ 9 := by
  have hm : m = 0 ∨ m = 1 ∨ m = 2 ∨ m = 3 ∨ m = 4 ∨ m = 5 ∨ m = 6 := by omega
  rcases hm with rfl | rfl | rfl | rfl | rfl | rfl | rfl <;> decide

set_option maxRecDepth 1000000 in
set_option maxHeartbeats 4000000 in
theorem piece_tzN (t : Array Value) (v : Value) (l : List UInt8) (nm : ByteArray) (off A : Int) (dy yy ck : Bool) (g : Nat) (out : List UInt8) (cs : List Code) (w : World) (Q : Exit → Act → World → Prop)
    (m : Int) (hoff : off = -(60 * m)) (hm0 : 0 < m) (hne : m ≠ 0) (hm1 : m ≤ 1440) (hd : m.tdiv 60 = m / 60) (hmo : m.tmod 60 = m % 60) (hq : (60 * m).tdiv 60 = m) (he : offText (-(60 * m)) = 45 :: (d2 (m / 60) ++ d2 (m % 60))) (hB : Buf w g v out) (hlen : out.length ≤ 600000) (ht : FmtT t v l nm off A dy yy ck) (hs : ∀ h : 19 < t.size, t[19]'h = .int .i64 29)
    (hK : ∀ (t' : Array Value) (g' : Nat) (v' : Value) (w' : World), Appended w g (out ++ El.text A nm off .tz) g' v' w' → FmtT t' v' l nm off A dy yy ck → wpL Tryz.prog cs Q ⟨t', []⟩ w') :
    wpL Tryz.prog (fp 12 :: fp 13 :: cs) Q ⟨t, []⟩ w := by
  have hBlt := hB.lt
  have hun : undef = Value.tuple #[] := rfl
  obtain ⟨z, t1, t2, t7, t8, t9, t10, t11, t12, t13, t14, t15, t16, t17⟩ := ht
  try simp only [if_true, forall_const] at t11 t12 t13 t14 t15 t16 t17
  have hm : bits .and .i64 29 65535 = 29 := by decide
  have e : El.text A nm off .tz = offText off := rfl
  rw [e] at hK
  clear e
  subst hoff
  have hzB : ((-(60 * m) : Int) == 0) = false := beq_eq_false_iff_ne.mpr (by omega)
  rw [he] at hK
  clear he
  · skip
    refine wpL_cons ?_
    conv => arg 2; whnf
    repeat (first | ((with_reducible refine wp_cond_true ?_ ?_); (focus (go_simp; done))) | ((with_reducible refine wp_cond_false ?_ ?_); (focus (go_simp; done))) | go_guarded | go_step)
    refine wpL_cons ?_
    conv => arg 2; whnf
    repeat (first | ((with_reducible refine wp_cond_true ?_ ?_); (focus (go_simp; done))) | ((with_reducible refine wp_cond_false ?_ ?_); (focus (go_simp; done))) | (at_builtin; refine wpList_append_buf rfl _ _ 34 rfl (by go_simp) (by go_simp) (hB.alloc _) (bytesIn_new1 _ 45 _ rfl) (by (try simp only [List.length_append, List.length_cons, List.length_nil, bs_data]); omega) ?_; intro g1 v1 w1 happ1) | (go_at_call 110; refine (appendInt_two _ (m % 60) _ _ _ happ2.buf (by omega) (by omega) (by (try simp only [List.length_append, List.length_cons, List.length_nil, bs_data]); omega)).mono ?_; rintro e w3 ⟨g3, v3, rfl, happ3⟩; dsimp only) | (go_at_call 110; refine (appendInt_two _ (m / 60) _ _ _ happ1.buf (by omega) (by omega) (by (try simp only [List.length_append, List.length_cons, List.length_nil, bs_data]); omega)).mono ?_; rintro e w2 ⟨g2, v2, rfl, happ2⟩; dsimp only) | go_guarded | go_step)
    have R := ((Appended.pre ((Below.refl _ w).alloc (Nat.le_refl _) _) happ1).trans happ2).trans happ3
    refine hK _ g3 v3 _ (by first | exact R | simpa only [d2, List.append_assoc, List.cons_append, List.nil_append] using R) ⟨?_, ?_, ?_, ?_, ?_, ?_, ?_, ?_, ?_, ?_, ?_, ?_, ?_, ?_⟩
    all_goals first | (simp [z]; done) | (intro h; simp [z, t1, t2, t7, t8, t9, t10, t11, t14, t15]; done) | (intro hc h; simp [z, t12 hc]; done) | (intro hc h; simp [z, t13 hc]; done) | (intro hc h; simp [z, t16 hc]; done) | (intro hc h; simp [z, t17 hc]; done) | (intro hc h; simp [z, t12]; done) | (intro hc h; simp [z, t13]; done) | (intro hc h; simp [z, t16]; done) | (intro hc h; simp [z, t17]; done)

end Go.Proofs.YtkcgngpoegglnaaGreatDoor
end
/- The printing of a time by a layout: the last pieces of a round: the elements with names, branches and signs. -/
section
namespace Go.Proofs.YtkcgngpoegglnaaGreatDoor
open Go Go.RowKit
set_option linter.unusedVariables false
set_option linter.unusedSimpArgs false

theorem monthName_lenP (m : Int) (h0 : 1 ≤ m) (h1 : m ≤ 12) : 3 ≤ (monthName m).length ∧ (monthName m).length ≤ 9 := by
  have hm : m = 1 ∨ m = 2 ∨ m = 3 ∨ m = 4 ∨ m = 5 ∨ m = 6 ∨ m = 7 ∨ m = 8 ∨ m = 9 ∨ m = 10 ∨ m = 11 ∨ m = 12 := by omega
  rcases hm with rfl | rfl | rfl | rfl | rfl | rfl | rfl | rfl | rfl | rfl | rfl | rfl <;> decide
theorem tz_factsP (off : Int) (ho : off % 60 = 0) (ho0 : -86400 ≤ off) (ho1 : off ≤ 86400) :
    (∃ k m : Int, off.tdiv 60 = k ∧ k < 0 ∧ IntKind.i64.wrap (-k) = m ∧ IntKind.i64.wrap (-off) = -off ∧ m.tdiv 60 = m / 60 ∧ m.tmod 60 = m % 60 ∧ 0 ≤ m / 60 ∧ m / 60 ≤ 99 ∧ 0 ≤ m % 60 ∧ m % 60 ≤ 99 ∧ offText off = 45 :: (d2 (m / 60) ++ d2 (m % 60)) ∧ off ≠ 0) ∨
    (∃ k : Int, off.tdiv 60 = k ∧ 0 ≤ k ∧ k.tdiv 60 = k / 60 ∧ k.tmod 60 = k % 60 ∧ 0 ≤ k / 60 ∧ k / 60 ≤ 99 ∧ 0 ≤ k % 60 ∧ k % 60 ≤ 99 ∧ offText off = 43 :: (d2 (k / 60) ++ d2 (k % 60)) ∧ off ≠ 0) ∨ off = 0 := by
  obtain ⟨k, rfl⟩ : ∃ k, off = 60 * k := ⟨off / 60, by omega⟩
  have hq : (60 * k).tdiv 60 = k := Int.mul_tdiv_cancel_left k (by decide)
  rcases Decidable.em (k < 0) with h0 | h0
  · refine .inl ⟨k, -k, hq, h0, IntWalk.i64_in _ (by omega), IntWalk.i64_in _ (by omega), Int.tdiv_eq_ediv_of_nonneg (by omega), Int.tmod_eq_emod_of_nonneg (by omega), by omega, by omega, by omega, by omega, ?_, by omega⟩
    unfold offText
    rw [if_pos (by omega)]
    have a1 : -(60 * k) / 3600 = -k / 60 := by omega
    have a2 : -(60 * k) / 60 % 60 = -k % 60 := by omega
    rw [a1, a2]
  · rcases Decidable.em (k = 0) with rfl | hk0
    · exact .inr (.inr rfl)
    refine .inr (.inl ⟨k, hq, by omega, Int.tdiv_eq_ediv_of_nonneg (by omega), Int.tmod_eq_emod_of_nonneg (by omega), by omega, by omega, by omega, by omega, ?_, by omega⟩)
    unfold offText
    rw [if_neg (by omega)]
    have a1 : 60 * k / 3600 = k / 60 := by omega
    have a2 : 60 * k / 60 % 60 = k % 60 := by omega
    rw [a1, a2]
theorem dayName_lenP (m : Int) (h0 : 0 ≤ m) (h1 : m ≤ 6) : 3 ≤ (dayName m).length ∧ (dayName m).length ≤ 9 := by
  have hm : m = 0 ∨ m = 1 ∨ m = 2 ∨ m = 3 ∨ m = 4 ∨ m = 5 ∨ m = 6 := by omega
  rcases hm with rfl | rfl | rfl | rfl | rfl | rfl | rfl <;> decide

set_option maxRecDepth 1000000 in
set_option maxHeartbeats 4000000 in
theorem piece_tzP (t : Array Value) (v : Value) (l : List UInt8) (nm : ByteArray) (off A : Int) (dy yy ck : Bool) (g : Nat) (out : List UInt8) (cs : List Code) (w : World) (Q : Exit → Act → World → Prop)
    (m : Int) (hoff : off = 60 * m) (hm0 : 0 < m) (hne : m ≠ 0) (hm1 : m ≤ 1440) (hd : m.tdiv 60 = m / 60) (hmo : m.tmod 60 = m % 60) (hq : (60 * m).tdiv 60 = m) (he : offText (60 * m) = 43 :: (d2 (m / 60) ++ d2 (m % 60))) (hB : Buf w g v out) (hlen : out.length ≤ 600000) (ht : FmtT t v l nm off A dy yy ck) (hs : ∀ h : 19 < t.size, t[19]'h = .int .i64 29)
    (hK : ∀ (t' : Array Value) (g' : Nat) (v' : Value) (w' : World), Appended w g (out ++ El.text A nm off .tz) g' v' w' → FmtT t' v' l nm off A dy yy ck → wpL Tryz.prog cs Q ⟨t', []⟩ w') :
    wpL Tryz.prog (fp 12 :: fp 13 :: cs) Q ⟨t, []⟩ w := by
  have hBlt := hB.lt
  have hun : undef = Value.tuple #[] := rfl
  obtain ⟨z, t1, t2, t7, t8, t9, t10, t11, t12, t13, t14, t15, t16, t17⟩ := ht
  try simp only [if_true, forall_const] at t11 t12 t13 t14 t15 t16 t17
  have hm : bits .and .i64 29 65535 = 29 := by decide
  have e : El.text A nm off .tz = offText off := rfl
  rw [e] at hK
  clear e
  have hq3 : off.tdiv 60 = m := by rw [hoff]; exact hq
  have hq2 : off / 60 = m := by omega
  have hp0 : 0 < off := by omega
  have hnl : ¬ m < 0 := by omega
  have hnl2 : decide (m < 0) = false := by simp; omega
  have hp1 : off ≤ 86400 := by omega
  have hzB : (off == 0) = false := beq_eq_false_iff_ne.mpr (by omega)
  rw [← hoff] at he
  rw [he] at hK
  clear he hq hoff
  · skip
    refine wpL_cons ?_
    conv => arg 2; whnf
    repeat (first | ((with_reducible refine wp_cond_true ?_ ?_); (focus (go_simp; done))) | ((with_reducible refine wp_cond_false ?_ ?_); (focus (go_simp; done))) | go_guarded | go_step)
    refine wpL_cons ?_
    conv => arg 2; whnf
    repeat (first | ((with_reducible refine wp_cond_true ?_ ?_); (focus (go_simp; done))) | ((with_reducible refine wp_cond_false ?_ ?_); (focus (go_simp; done))) | (at_builtin; refine wpList_append_buf rfl _ _ 34 rfl (by go_simp) (by go_simp) (hB.alloc _) (bytesIn_new1 _ 43 _ rfl) (by (try simp only [List.length_append, List.length_cons, List.length_nil, bs_data]); omega) ?_; intro g1 v1 w1 happ1) | (go_at_call 110; refine (appendInt_two _ (m % 60) _ _ _ happ2.buf (by omega) (by omega) (by (try simp only [List.length_append, List.length_cons, List.length_nil, bs_data]); omega)).mono ?_; rintro e w3 ⟨g3, v3, rfl, happ3⟩; dsimp only) | (go_at_call 110; refine (appendInt_two _ (m / 60) _ _ _ happ1.buf (by omega) (by omega) (by (try simp only [List.length_append, List.length_cons, List.length_nil, bs_data]); omega)).mono ?_; rintro e w2 ⟨g2, v2, rfl, happ2⟩; dsimp only) | go_guarded | go_step)
    have R := ((Appended.pre ((Below.refl _ w).alloc (Nat.le_refl _) _) happ1).trans happ2).trans happ3
    refine hK _ g3 v3 _ (by first | exact R | simpa only [d2, List.append_assoc, List.cons_append, List.nil_append] using R) ⟨?_, ?_, ?_, ?_, ?_, ?_, ?_, ?_, ?_, ?_, ?_, ?_, ?_, ?_⟩
    all_goals first | (simp [z]; done) | (intro h; simp [z, t1, t2, t7, t8, t9, t10, t11, t14, t15]; done) | (intro hc h; simp [z, t12 hc]; done) | (intro hc h; simp [z, t13 hc]; done) | (intro hc h; simp [z, t16 hc]; done) | (intro hc h; simp [z, t17 hc]; done) | (intro hc h; simp [z, t12]; done) | (intro hc h; simp [z, t13]; done) | (intro hc h; simp [z, t16]; done) | (intro hc h; simp [z, t17]; done)

end Go.Proofs.YtkcgngpoegglnaaGreatDoor
end
/- The printing of a time by a layout: the last pieces of a round: the elements with names, branches and signs. -/
section
namespace Go.Proofs.YtkcgngpoegglnaaGreatDoor
open Go Go.RowKit
set_option linter.unusedVariables false
set_option linter.unusedSimpArgs false

theorem monthName_len0 (m : Int) (h0 : 1 ≤ m) (h1 : m ≤ 12) : 3 ≤ (monthName m).length ∧ (monthName m).length ≤ 9 := by
  have hm : m = 1 ∨ m = 2 ∨ m = 3 ∨ m = 4 ∨ m = 5 ∨ m = 6 ∨ m = 7 ∨ m = 8 ∨ m = 9 ∨ m = 10 ∨ m = 11 ∨ m = 12 := by omega
  rcases hm with rfl | rfl | rfl | rfl | rfl | rfl | rfl | rfl | rfl | rfl | rfl | rfl <;> decide
theorem tz_facts0 (off : Int) (ho : off % 60 = 0) (ho0 : -86400 ≤ off) (ho1 : off ≤ 86400) :
    (∃ k m : Int, off.tdiv 60 = k ∧ k < 0 ∧ IntKind.i64.wrap (-k) = m ∧ IntKind.i64.wrap (-off) = -off ∧ m.tdiv 60 = m / 60 ∧ m.tmod 60 = m % 60 ∧ 0 ≤ m / 60 ∧ m / 60 ≤ 99 ∧ 0 ≤ m % 60 ∧ m % 60 ≤ 99 ∧ offText off = 45 :: (d2 (m / 60) ++ d2 (m % 60)) ∧ off ≠ 0) ∨
    (∃ k : Int, off.tdiv 60 = k ∧ 0 ≤ k ∧ k.tdiv 60 = k / 60 ∧ k.tmod 60 = k % 60 ∧ 0 ≤ k / 60 ∧ k / 60 ≤ 99 ∧ 0 ≤ k % 60 ∧ k % 60 ≤ 99 ∧ offText off = 43 :: (d2 (k / 60) ++ d2 (k % 60)) ∧ off ≠ 0) ∨ off = 0 := by
  obtain ⟨k, rfl⟩ : ∃ k, off = 60 * k := ⟨off / 60, by omega⟩
  have hq : (60 * k).tdiv 60 = k := Int.mul_tdiv_cancel_left k (by decide)
  rcases Decidable.em (k < 0) with h0 | h0
  · refine .inl ⟨k, -k, hq, h0, IntWalk.i64_in _ (by omega), IntWalk.i64_in _ (by omega), Int.tdiv_eq_ediv_of_nonneg (by omega), Int.tmod_eq_emod_of_nonneg (by omega), by omega, by omega, by omega, by omega, ?_, by omega⟩
    unfold offText
    rw [if_pos (by omega)]
    have a1 : -(60 * k) / 3600 = -k / 60 := by omega
    have a2 : -(60 * k) / 60 % 60 = -k % 60 := by omega
    rw [a1, a2]
  · rcases Decidable.em (k = 0) with rfl | hk0
    · exact .inr (.inr rfl)
    refine .inr (.inl ⟨k, hq, by omega, Int.tdiv_eq_ediv_of_nonneg (by omega), Int.tmod_eq_emod_of_nonneg (by omega), by omega, by omega, by omega, by omega, ?_, by omega⟩)
    unfold offText
    rw [if_neg (by omega)]
    have a1 : 60 * k / 3600 = k / 60 := by omega
    have a2 : 60 * k / 60 % 60 = k % 60 := by omega
    rw [a1, a2]
theorem dayName_len0 (m : Int) (h0 : 0 ≤ m) (h1 : m ≤ 6) : 3 ≤ (dayName m).length ∧ (dayName m).length ≤ 9 := by
  have hm : m = 0 ∨ m = 1 ∨ m = 2 ∨ m = 3 ∨ m = 4 ∨ m = 5 ∨ m = 6 := by omega
  rcases hm with rfl | rfl | rfl | rfl | rfl | rfl | rfl <;> decide

set_option maxRecDepth 1000000 in
set_option maxHeartbeats 4000000 in
theorem piece_tz0 (t : Array Value) (v : Value) (l : List UInt8) (nm : ByteArray) (off A : Int) (dy yy ck : Bool) (g : Nat) (out : List UInt8) (cs : List Code) (w : World) (Q : Exit → Act → World → Prop)
    (hoff : off = 0) (he : offText 0 = 43 :: (d2 0 ++ d2 0)) (hB : Buf w g v out) (hlen : out.length ≤ 600000) (ht : FmtT t v l nm off A dy yy ck) (hs : ∀ h : 19 < t.size, t[19]'h = .int .i64 29)
    (hK : ∀ (t' : Array Value) (g' : Nat) (v' : Value) (w' : World), Appended w g (out ++ El.text A nm off .tz) g' v' w' → FmtT t' v' l nm off A dy yy ck → wpL Tryz.prog cs Q ⟨t', []⟩ w') :
    wpL Tryz.prog (fp 12 :: fp 13 :: cs) Q ⟨t, []⟩ w := by
  have hBlt := hB.lt
  obtain ⟨z, t1, t2, t7, t8, t9, t10, t11, t12, t13, t14, t15, t16, t17⟩ := ht
  try simp only [if_true, forall_const] at t11 t12 t13 t14 t15 t16 t17
  have hm : bits .and .i64 29 65535 = 29 := by decide
  have e : El.text A nm off .tz = offText off := rfl
  rw [e] at hK
  clear e
  subst hoff
  rw [he] at hK
  clear he
  · skip
    refine wpL_cons ?_
    conv => arg 2; whnf
    repeat (first | ((with_reducible refine wp_cond_true ?_ ?_); (focus (go_simp; done))) | ((with_reducible refine wp_cond_false ?_ ?_); (focus (go_simp; done))) | go_guarded | go_step)
    refine wpL_cons ?_
    conv => arg 2; whnf
    repeat (first | ((with_reducible refine wp_cond_true ?_ ?_); (focus (go_simp; done))) | ((with_reducible refine wp_cond_false ?_ ?_); (focus (go_simp; done))) | (at_builtin; refine wpList_append_buf rfl _ _ 34 rfl (by go_simp) (by go_simp) (hB.alloc _) (bytesIn_new1 _ 43 _ rfl) (by (try simp only [List.length_append, List.length_cons, List.length_nil, bs_data]); omega) ?_; intro g1 v1 w1 happ1) | (go_at_call 110; refine (appendInt_two _ (0) _ _ _ happ2.buf (by omega) (by omega) (by (try simp only [List.length_append, List.length_cons, List.length_nil, bs_data]); omega)).mono ?_; rintro e w3 ⟨g3, v3, rfl, happ3⟩; dsimp only) | (go_at_call 110; refine (appendInt_two _ (0) _ _ _ happ1.buf (by omega) (by omega) (by (try simp only [List.length_append, List.length_cons, List.length_nil, bs_data]); omega)).mono ?_; rintro e w2 ⟨g2, v2, rfl, happ2⟩; dsimp only) | go_guarded | go_step)
    have R := ((Appended.pre ((Below.refl _ w).alloc (Nat.le_refl _) _) happ1).trans happ2).trans happ3
    refine hK _ g3 v3 _ (by first | exact R | simpa only [d2, List.append_assoc, List.cons_append, List.nil_append] using R) ⟨?_, ?_, ?_, ?_, ?_, ?_, ?_, ?_, ?_, ?_, ?_, ?_, ?_, ?_⟩
    all_goals first | (simp [z]; done) | (intro h; simp [z, t1, t2, t7, t8, t9, t10, t11, t14, t15]; done) | (intro hc h; simp [z, t12 hc]; done) | (intro hc h; simp [z, t13 hc]; done) | (intro hc h; simp [z, t16 hc]; done) | (intro hc h; simp [z, t17 hc]; done) | (intro hc h; simp [z, t12]; done) | (intro hc h; simp [z, t13]; done) | (intro hc h; simp [z, t16]; done) | (intro hc h; simp [z, t17]; done)

end Go.Proofs.YtkcgngpoegglnaaGreatDoor
end
