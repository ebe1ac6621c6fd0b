/- The printing of a time by a layout: the last pieces of a round: the elements with names, branches and signs. -/
import Derived.Test.YtkcgngpoegglnaaGreatDoorM13
import Derived.Test.YtkcgngpoegglnaaGreatDoorM10
namespace Go.Proofs.YtkcgngpoegglnaaGreatDoor
open Go Go.RowKit
set_option linter.unusedVariables false
set_option linter.unusedSimpArgs false

theorem monthName_len (m : Int) (h0 : 1 ≤ m) (h1 : m ≤ 12) : 3 ≤ (monthName m).length ∧ (monthName m).length ≤ 9 := by
  have hm : m = 1 ∨ m = 2 ∨ m = 3 ∨ m = 4 ∨ m = 5 ∨ m = 6 ∨ m = 7 ∨ m = 8 ∨ m = 9 ∨ m = 10 ∨ m = 11 ∨ m = 12 := by omega
  rcases hm with rfl | rfl | rfl | rfl | rfl | rfl | rfl | rfl | rfl | rfl | rfl | rfl <;> decide
theorem tz_facts (off : Int) (ho : off % 60 = 0) (ho0 : -86400 ≤ off) (ho1 : off ≤ 86400) :
    (∃ k m : Int, off.tdiv 60 = k ∧ k < 0 ∧ IntKind.i64.wrap (-k) = m ∧ IntKind.i64.wrap (-off) = -off ∧ m.tdiv 60 = m / 60 ∧ m.tmod 60 = m % 60 ∧ 0 ≤ m / 60 ∧ m / 60 ≤ 99 ∧ 0 ≤ m % 60 ∧ m % 60 ≤ 99 ∧ offText off = 45 :: (d2 (m / 60) ++ d2 (m % 60)) ∧ off ≠ 0) ∨
    (∃ k : Int, off.tdiv 60 = k ∧ 0 ≤ k ∧ k.tdiv 60 = k / 60 ∧ k.tmod 60 = k % 60 ∧ 0 ≤ k / 60 ∧ k / 60 ≤ 99 ∧ 0 ≤ k % 60 ∧ k % 60 ≤ 99 ∧ offText off = 43 :: (d2 (k / 60) ++ d2 (k % 60)) ∧ off ≠ 0) ∨ off = 0 := by
  obtain ⟨k, rfl⟩ : ∃ k, off = 60 * k := ⟨off / 60, by omega⟩
  have hq : (60 * k).tdiv 60 = k := Int.mul_tdiv_cancel_left k (by decide)
  rcases Decidable.em (k < 0) with h0 | h0
  · refine .inl ⟨k, -k, hq, h0, IntWalk.i64_in _ (by omega), IntWalk.i64_in _ (by omega), Int.tdiv_eq_ediv_of_nonneg (by omega), Int.tmod_eq_emod_of_nonneg (by omega), by omega, by omega, by omega, by omega, ?_, by omega⟩
    unfold offText
    rw [if_pos (by omega)]
    have a1 : -(60 * k) / 3600 = -k / 60 := by omega
    have a2 : -(60 * k) / 60 % 60 = -k % 60 := by omega
    rw [a1, a2]
  · rcases Decidable.em (k = 0) with rfl | hk0
    · exact .inr (.inr rfl)
    refine .inr (.inl ⟨k, hq, by omega, Int.tdiv_eq_ediv_of_nonneg (by omega), Int.tmod_eq_emod_of_nonneg (by omega), by omega, by omega, by omega, by omega, ?_, by omega⟩)
    unfold offText
    rw [if_neg (by omega)]
    have a1 : 60 * k / 3600 = k / 60 := by omega
    have a2 : 60 * k / 60 % 60 = k % 60 := by omega
    rw [a1, a2]
theorem dayName_len (m : Int) (h0 : 0 ≤ m) (h1 : m ≤ 6) : 3 ≤ (dayName m).length ∧ (dayName m).length ≤ 9 := by
  have hm : m = 0 ∨ m = 1 ∨ m = 2 ∨ m = 3 ∨ m = 4 ∨ m = 5 ∨ m = 6 := by omega
  rcases hm with rfl | rfl | rfl | rfl | rfl | rfl | rfl <;> decide

set_option maxRecDepth 1000000 in
set_option maxHeartbeats 4000000 in
theorem piece_january (t : Array Value) (v : Value) (l : List UInt8) (nm : ByteArray) (off A : Int) (yy ck : Bool) (g : Nat) (out : List UInt8) (cs : List Code) (w : World) (Q : Exit → Act → World → Prop)
    (h0 : 1 ≤ monthF (A / 86400)) (h1 : monthF (A / 86400) ≤ 12) (hB : Buf w g v out) (hlen : out.length ≤ 600000) (ht : FmtT t v l nm off A true yy ck) (hs : ∀ h : 19 < t.size, t[19]'h = .int .i64 257)
    (hK : ∀ (t' : Array Value) (g' : Nat) (v' : Value) (w' : World), Appended w g (out ++ El.text A nm off .january) g' v' w' → FmtT t' v' l nm off A true yy ck → wpL Tryz.prog cs Q ⟨t', []⟩ w') :
    wpL Tryz.prog (fp 12 :: fp 13 :: cs) Q ⟨t, []⟩ w := by
  have hBlt := hB.lt
  obtain ⟨z, t1, t2, t7, t8, t9, t10, t11, t12, t13, t14, t15, t16, t17⟩ := ht
  try simp only [if_true, forall_const] at t11 t12 t13 t14 t15 t16 t17
  have hm : bits .and .i64 257 65535 = 257 := by decide
  have hln : 3 ≤ (monthName (monthF (A / 86400))).length ∧ (monthName (monthF (A / 86400))).length ≤ 9 := monthName_len _ h0 h1
  have hsz : 3 ≤ (bs (monthName (monthF (A / 86400)))).size := by rw [bs_size]; exact hln.1
  have hex : (bs (monthName (monthF (A / 86400)))).extract 0 3 = bs ((monthName (monthF (A / 86400))).take 3) := bs_extract (monthName (monthF (A / 86400))) 0 3
  have hc := fun w => monthString_any (monthF (A / 86400)) w h0 h1
  have htk : ((monthName (monthF (A / 86400))).take 3).length ≤ 9 := by simp; omega
  have e : El.text A nm off .january = (monthName (monthF (A / 86400))) := rfl
  rw [e] at hK
  generalize monthName (monthF (A / 86400)) = mn at *
  · skip
    refine wpL_cons ?_
    conv => arg 2; whnf
    repeat (first | ((with_reducible refine wp_cond_true ?_ ?_); (focus (go_simp; done))) | ((with_reducible refine wp_cond_false ?_ ?_); (focus (go_simp; done))) | go_guarded | go_step)
    refine wpL_cons ?_
    conv => arg 2; whnf
    repeat (first | ((with_reducible refine wp_cond_true ?_ ?_); (focus (go_simp; done))) | ((with_reducible refine wp_cond_false ?_ ?_); (focus (go_simp; done))) | (go_at_call 56; refine (hc _).mono ?_; rintro e w1 ⟨rfl, hb1⟩; dsimp only) | (at_builtin; refine wpList_append_buf rfl _ _ 9 rfl (by go_simp) (by go_simp) (hB.below hb1 hBlt) (bytesIn_string _ (bs mn)) (by (try simp only [List.length_append, List.length_cons, List.length_nil, bs_data]); omega) ?_; intro g2 v2 w2 happ2; try rw [bs_data] at happ2) | go_guarded | go_step)
    have R := happ2.pre hb1
    refine hK _ g2 v2 _ (by first | exact R | simpa only [d2, List.append_assoc, List.cons_append, List.nil_append] using R) ⟨?_, ?_, ?_, ?_, ?_, ?_, ?_, ?_, ?_, ?_, ?_, ?_, ?_, ?_⟩
    all_goals first | (simp [z]; done) | (intro h; simp [z, t1, t2, t7, t8, t9, t10, t11, t14, t15]; done) | (intro hc h; simp [z, t12 hc]; done) | (intro hc h; simp [z, t13 hc]; done) | (intro hc h; simp [z, t16 hc]; done) | (intro hc h; simp [z, t17 hc]; done) | (intro hc h; simp [z, t12]; done) | (intro hc h; simp [z, t13]; done) | (intro hc h; simp [z, t16]; done) | (intro hc h; simp [z, t17]; done)

set_option maxRecDepth 1000000 in
set_option maxHeartbeats 4000000 in
theorem piece_jan (t : Array Value) (v : Value) (l : List UInt8) (nm : ByteArray) (off A : Int) (yy ck : Bool) (g : Nat) (out : List UInt8) (cs : List Code) (w : World) (Q : Exit → Act → World → Prop)
    (h0 : 1 ≤ monthF (A / 86400)) (h1 : monthF (A / 86400) ≤ 12) (hB : Buf w g v out) (hlen : out.length ≤ 600000) (ht : FmtT t v l nm off A true yy ck) (hs : ∀ h : 19 < t.size, t[19]'h = .int .i64 258)
    (hK : ∀ (t' : Array Value) (g' : Nat) (v' : Value) (w' : World), Appended w g (out ++ El.text A nm off .jan) g' v' w' → FmtT t' v' l nm off A true yy ck → wpL Tryz.prog cs Q ⟨t', []⟩ w') :
    wpL Tryz.prog (fp 12 :: fp 13 :: cs) Q ⟨t, []⟩ w := by
  have hBlt := hB.lt
  obtain ⟨z, t1, t2, t7, t8, t9, t10, t11, t12, t13, t14, t15, t16, t17⟩ := ht
  try simp only [if_true, forall_const] at t11 t12 t13 t14 t15 t16 t17
  have hm : bits .and .i64 258 65535 = 258 := by decide
  have hln : 3 ≤ (monthName (monthF (A / 86400))).length ∧ (monthName (monthF (A / 86400))).length ≤ 9 := monthName_len _ h0 h1
  have hsz : 3 ≤ (bs (monthName (monthF (A / 86400)))).size := by rw [bs_size]; exact hln.1
  have hex : (bs (monthName (monthF (A / 86400)))).extract 0 3 = bs ((monthName (monthF (A / 86400))).take 3) := bs_extract (monthName (monthF (A / 86400))) 0 3
  have hc := fun w => monthString_any (monthF (A / 86400)) w h0 h1
  have htk : ((monthName (monthF (A / 86400))).take 3).length ≤ 9 := by simp; omega
  have e : El.text A nm off .jan = (monthName (monthF (A / 86400))).take 3 := rfl
  rw [e] at hK
  generalize monthName (monthF (A / 86400)) = mn at *
  · skip
    refine wpL_cons ?_
    conv => arg 2; whnf
    repeat (first | ((with_reducible refine wp_cond_true ?_ ?_); (focus (go_simp; done))) | ((with_reducible refine wp_cond_false ?_ ?_); (focus (go_simp; done))) | go_guarded | go_step)
    refine wpL_cons ?_
    conv => arg 2; whnf
    repeat (first | ((with_reducible refine wp_cond_true ?_ ?_); (focus (go_simp; done))) | ((with_reducible refine wp_cond_false ?_ ?_); (focus (go_simp; done))) | (go_at_call 56; refine (hc _).mono ?_; rintro e w1 ⟨rfl, hb1⟩; dsimp only) | (at_builtin; refine wpList_append_buf (news := mn.take 3) (y := .string (bs (mn.take 3))) rfl _ _ 9 rfl (by go_simp) (by go_simp) (hB.below hb1 hBlt) (by have := bytesIn_string w1 (bs (mn.take 3)); rw [bs_data] at this; exact this) (by omega) ?_; intro g2 v2 w2 happ2) | go_guarded | go_step)
    have R := happ2.pre hb1
    refine hK _ g2 v2 _ (by first | exact R | simpa only [d2, List.append_assoc, List.cons_append, List.nil_append] using R) ⟨?_, ?_, ?_, ?_, ?_, ?_, ?_, ?_, ?_, ?_, ?_, ?_, ?_, ?_⟩
    all_goals first | (simp [z]; done) | (intro h; simp [z, t1, t2, t7, t8, t9, t10, t11, t14, t15]; done) | (intro hc h; simp [z, t12 hc]; done) | (intro hc h; simp [z, t13 hc]; done) | (intro hc h; simp [z, t16 hc]; done) | (intro hc h; simp [z, t17 hc]; done) | (intro hc h; simp [z, t12]; done) | (intro hc h; simp [z, t13]; done) | (intro hc h; simp [z, t16]; done) | (intro hc h; simp [z, t17]; done)

set_option maxRecDepth 1000000 in
set_option maxHeartbeats 4000000 in
theorem piece_monday (t : Array Value) (v : Value) (l : List UInt8) (nm : ByteArray) (off A : Int) (dy yy ck : Bool) (g : Nat) (out : List UInt8) (cs : List Code) (w : World) (Q : Exit → Act → World → Prop)
    (h0 : 0 ≤ ((A / 86400) + 3) % 7) (h1 : ((A / 86400) + 3) % 7 ≤ 6) (h2 : 0 ≤ (A / 86400)) (h3 : (A / 86400) < 1000000000000000000) (hB : Buf w g v out) (hlen : out.length ≤ 600000) (ht : FmtT t v l nm off A dy yy ck) (hs : ∀ h : 19 < t.size, t[19]'h = .int .i64 261)
    (hK : ∀ (t' : Array Value) (g' : Nat) (v' : Value) (w' : World), Appended w g (out ++ El.text A nm off .monday) g' v' w' → FmtT t' v' l nm off A dy yy ck → wpL Tryz.prog cs Q ⟨t', []⟩ w') :
    wpL Tryz.prog (fp 12 :: fp 13 :: cs) Q ⟨t, []⟩ w := by
  have hBlt := hB.lt
  obtain ⟨z, t1, t2, t7, t8, t9, t10, t11, t12, t13, t14, t15, t16, t17⟩ := ht
  try simp only [if_true, forall_const] at t11 t12 t13 t14 t15 t16 t17
  have hm : bits .and .i64 261 65535 = 261 := by decide
  have hln : 3 ≤ (dayName (((A / 86400) + 3) % 7)).length ∧ (dayName (((A / 86400) + 3) % 7)).length ≤ 9 := dayName_len _ h0 h1
  have hsz : 3 ≤ (bs (dayName (((A / 86400) + 3) % 7))).size := by rw [bs_size]; exact hln.1
  have hex : (bs (dayName (((A / 86400) + 3) % 7))).extract 0 3 = bs ((dayName (((A / 86400) + 3) % 7)).take 3) := bs_extract (dayName (((A / 86400) + 3) % 7)) 0 3
  have hc := fun w => dayString_any (((A / 86400) + 3) % 7) w h0 h1
  have htk : ((dayName (((A / 86400) + 3) % 7)).take 3).length ≤ 9 := by simp; omega
  have e : El.text A nm off .monday = (dayName (((A / 86400) + 3) % 7)) := rfl
  rw [e] at hK
  generalize dayName (((A / 86400) + 3) % 7) = mn at *
  · skip
    refine wpL_cons ?_
    conv => arg 2; whnf
    repeat (first | ((with_reducible refine wp_cond_true ?_ ?_); (focus (go_simp; done))) | ((with_reducible refine wp_cond_false ?_ ?_); (focus (go_simp; done))) | go_guarded | go_step)
    refine wpL_cons ?_
    conv => arg 2; whnf
    repeat (first | ((with_reducible refine wp_cond_true ?_ ?_); (focus (go_simp; done))) | ((with_reducible refine wp_cond_false ?_ ?_); (focus (go_simp; done))) | (go_at_call 85; refine (weekday_any _ _ h2 h3).mono ?_; rintro e w0 ⟨rfl, rfl⟩; dsimp only) | (go_at_call 54; refine (hc _).mono ?_; rintro e w1 ⟨rfl, hb1⟩; dsimp only) | (at_builtin; refine wpList_append_buf rfl _ _ 9 rfl (by go_simp) (by go_simp) (hB.below hb1 hBlt) (bytesIn_string _ (bs mn)) (by (try simp only [List.length_append, List.length_cons, List.length_nil, bs_data]); omega) ?_; intro g2 v2 w2 happ2; try rw [bs_data] at happ2) | go_guarded | go_step)
    have R := happ2.pre hb1
    refine hK _ g2 v2 _ (by first | exact R | simpa only [d2, List.append_assoc, List.cons_append, List.nil_append] using R) ⟨?_, ?_, ?_, ?_, ?_, ?_, ?_, ?_, ?_, ?_, ?_, ?_, ?_, ?_⟩
    all_goals first | (simp [z]; done) | (intro h; simp [z, t1, t2, t7, t8, t9, t10, t11, t14, t15]; done) | (intro hc h; simp [z, t12 hc]; done) | (intro hc h; simp [z, t13 hc]; done) | (intro hc h; simp [z, t16 hc]; done) | (intro hc h; simp [z, t17 hc]; done) | (intro hc h; simp [z, t12]; done) | (intro hc h; simp [z, t13]; done) | (intro hc h; simp [z, t16]; done) | (intro hc h; simp [z, t17]; done)

set_option maxRecDepth 1000000 in
set_option maxHeartbeats 4000000 in
theorem piece_mon (t : Array Value) (v : Value) (l : List UInt8) (nm : ByteArray) (off A : Int) (dy yy ck : Bool) (g : Nat) (out : List UInt8) (cs : List Code) (w : World) (Q : Exit → Act → World → Prop)
    (h0 : 0 ≤ ((A / 86400) + 3) % 7) (h1 : ((A / 86400) + 3) % 7 ≤ 6) (h2 : 0 ≤ (A / 86400)) (h3 : (A / 86400) < 1000000000000000000) (hB : Buf w g v out) (hlen : out.length ≤ 600000) (ht : FmtT t v l nm off A dy yy ck) (hs : ∀ h : 19 < t.size, t[19]'h = .int .i64 262)
    (hK : ∀ (t' : Array Value) (g' : Nat) (v' : Value) (w' : World), Appended w g (out ++ El.text A nm off .mon) g' v' w' → FmtT t' v' l nm off A dy yy ck → wpL Tryz.prog cs Q ⟨t', []⟩ w') :
    wpL Tryz.prog (fp 12 :: fp 13 :: cs) Q ⟨t, []⟩ w := by
  have hBlt := hB.lt
  obtain ⟨z, t1, t2, t7, t8, t9, t10, t11, t12, t13, t14, t15, t16, t17⟩ := ht
  try simp only [if_true, forall_const] at t11 t12 t13 t14 t15 t16 t17
  have hm : bits .and .i64 262 65535 = 262 := by decide
  have hln : 3 ≤ (dayName (((A / 86400) + 3) % 7)).length ∧ (dayName (((A / 86400) + 3) % 7)).length ≤ 9 := dayName_len _ h0 h1
  have hsz : 3 ≤ (bs (dayName (((A / 86400) + 3) % 7))).size := by rw [bs_size]; exact hln.1
  have hex : (bs (dayName (((A / 86400) + 3) % 7))).extract 0 3 = bs ((dayName (((A / 86400) + 3) % 7)).take 3) := bs_extract (dayName (((A / 86400) + 3) % 7)) 0 3
  have hc := fun w => dayString_any (((A / 86400) + 3) % 7) w h0 h1
  have htk : ((dayName (((A / 86400) + 3) % 7)).take 3).length ≤ 9 := by simp; omega
  have e : El.text A nm off .mon = (dayName (((A / 86400) + 3) % 7)).take 3 := rfl
  rw [e] at hK
  generalize dayName (((A / 86400) + 3) % 7) = mn at *
  · skip
    refine wpL_cons ?_
    conv => arg 2; whnf
    repeat (first | ((with_reducible refine wp_cond_true ?_ ?_); (focus (go_simp; done))) | ((with_reducible refine wp_cond_false ?_ ?_); (focus (go_simp; done))) | go_guarded | go_step)
    refine wpL_cons ?_
    conv => arg 2; whnf
    repeat (first | ((with_reducible refine wp_cond_true ?_ ?_); (focus (go_simp; done))) | ((with_reducible refine wp_cond_false ?_ ?_); (focus (go_simp; done))) | (go_at_call 85; refine (weekday_any _ _ h2 h3).mono ?_; rintro e w0 ⟨rfl, rfl⟩; dsimp only) | (go_at_call 54; refine (hc _).mono ?_; rintro e w1 ⟨rfl, hb1⟩; dsimp only) | (at_builtin; refine wpList_append_buf (news := mn.take 3) (y := .string (bs (mn.take 3))) rfl _ _ 9 rfl (by go_simp) (by go_simp) (hB.below hb1 hBlt) (by have := bytesIn_string w1 (bs (mn.take 3)); rw [bs_data] at this; exact this) (by omega) ?_; intro g2 v2 w2 happ2) | go_guarded | go_step)
    have R := happ2.pre hb1
    refine hK _ g2 v2 _ (by first | exact R | simpa only [d2, List.append_assoc, List.cons_append, List.nil_append] using R) ⟨?_, ?_, ?_, ?_, ?_, ?_, ?_, ?_, ?_, ?_, ?_, ?_, ?_, ?_⟩
    all_goals first | (simp [z]; done) | (intro h; simp [z, t1, t2, t7, t8, t9, t10, t11, t14, t15]; done) | (intro hc h; simp [z, t12 hc]; done) | (intro hc h; simp [z, t13 hc]; done) | (intro hc h; simp [z, t16 hc]; done) | (intro hc h; simp [z, t17 hc]; done) | (intro hc h; simp [z, t12]; done) | (intro hc h; simp [z, t13]; done) | (intro hc h; simp [z, t16]; done) | (intro hc h; simp [z, t17]; done)

set_option maxRecDepth 1000000 in
set_option maxHeartbeats 4000000 in
theorem piece_z3 (t : Array Value) (v : Value) (l : List UInt8) (nm : ByteArray) (off A : Int) (dy yy : Bool) (g : Nat) (out : List UInt8) (cs : List Code) (w : World) (Q : Exit → Act → World → Prop)
    (hA : 0 ≤ A) (hB : Buf w g v out) (hlen : out.length ≤ 600000) (ht : FmtT t v l nm off A dy yy true) (hs : ∀ h : 19 < t.size, t[19]'h = .int .i64 1038)
    (hK : ∀ (t' : Array Value) (g' : Nat) (v' : Value) (w' : World), Appended w g (out ++ El.text A nm off .z3) g' v' w' → FmtT t' v' l nm off A dy yy true → wpL Tryz.prog cs Q ⟨t', []⟩ w') :
    wpL Tryz.prog (fp 12 :: fp 13 :: cs) Q ⟨t, []⟩ w := by
  have hBlt := hB.lt
  obtain ⟨z, t1, t2, t7, t8, t9, t10, t11, t12, t13, t14, t15, t16, t17⟩ := ht
  try simp only [if_true, forall_const] at t11 t12 t13 t14 t15 t16 t17
  have hm : bits .and .i64 1038 65535 = 1038 := by decide
  have e : El.text A nm off .z3 = d2 (h12 (A % 86400 / 3600)) := rfl
  rw [e] at hK
  have hh : 0 ≤ A % 86400 / 3600 ∧ A % 86400 / 3600 ≤ 23 := by omega
  rcases Decidable.em (A % 86400 / 3600 % 12 = 0) with h0 | h0
  · simp only [h12, h0, if_true] at hK
    refine wpL_cons ?_
    conv => arg 2; whnf
    repeat (first | ((with_reducible refine wp_cond_true ?_ ?_); (focus (go_simp; done))) | ((with_reducible refine wp_cond_false ?_ ?_); (focus (go_simp; done))) | go_guarded | go_step)
    refine wpL_cons ?_
    conv => arg 2; whnf
    repeat (first | ((with_reducible refine wp_cond_true ?_ ?_); (focus (go_simp; done))) | ((with_reducible refine wp_cond_false ?_ ?_); (focus (go_simp; done))) | (go_at_call 110; refine (appendInt_two _ (12) _ _ _ hB (by omega) (by omega) (by (try simp only [List.length_append, List.length_cons, List.length_nil, bs_data]); omega)).mono ?_; rintro e w1 ⟨g1, v1, rfl, happ1⟩; dsimp only) | go_guarded | go_step)
    have R := happ1
    refine hK _ g1 v1 _ (by first | exact R | simpa only [d2, List.append_assoc, List.cons_append, List.nil_append] using R) ⟨?_, ?_, ?_, ?_, ?_, ?_, ?_, ?_, ?_, ?_, ?_, ?_, ?_, ?_⟩
    all_goals first | (simp [z]; done) | (intro h; simp [z, t1, t2, t7, t8, t9, t10, t11, t14, t15]; done) | (intro hc h; simp [z, t12 hc]; done) | (intro hc h; simp [z, t13 hc]; done) | (intro hc h; simp [z, t16 hc]; done) | (intro hc h; simp [z, t17 hc]; done) | (intro hc h; simp [z, t12]; done) | (intro hc h; simp [z, t13]; done) | (intro hc h; simp [z, t16]; done) | (intro hc h; simp [z, t17]; done)
  · simp only [h12, h0, if_false] at hK
    refine wpL_cons ?_
    conv => arg 2; whnf
    repeat (first | ((with_reducible refine wp_cond_true ?_ ?_); (focus (go_simp; done))) | ((with_reducible refine wp_cond_false ?_ ?_); (focus (go_simp; done))) | go_guarded | go_step)
    refine wpL_cons ?_
    conv => arg 2; whnf
    repeat (first | ((with_reducible refine wp_cond_true ?_ ?_); (focus (go_simp; done))) | ((with_reducible refine wp_cond_false ?_ ?_); (focus (go_simp; done))) | (go_at_call 110; refine (appendInt_two _ (A % 86400 / 3600 % 12) _ _ _ hB (by omega) (by omega) (by (try simp only [List.length_append, List.length_cons, List.length_nil, bs_data]); omega)).mono ?_; rintro e w1 ⟨g1, v1, rfl, happ1⟩; dsimp only) | go_guarded | go_step)
    have R := happ1
    refine hK _ g1 v1 _ (by first | exact R | simpa only [d2, List.append_assoc, List.cons_append, List.nil_append] using R) ⟨?_, ?_, ?_, ?_, ?_, ?_, ?_, ?_, ?_, ?_, ?_, ?_, ?_, ?_⟩
    all_goals first | (simp [z]; done) | (intro h; simp [z, t1, t2, t7, t8, t9, t10, t11, t14, t15]; done) | (intro hc h; simp [z, t12 hc]; done) | (intro hc h; simp [z, t13 hc]; done) | (intro hc h; simp [z, t16 hc]; done) | (intro hc h; simp [z, t17 hc]; done) | (intro hc h; simp [z, t12]; done) | (intro hc h; simp [z, t13]; done) | (intro hc h; simp [z, t16]; done) | (intro hc h; simp [z, t17]; done)

set_option maxRecDepth 1000000 in
set_option maxHeartbeats 4000000 in
theorem piece_pm (t : Array Value) (v : Value) (l : List UInt8) (nm : ByteArray) (off A : Int) (dy yy : Bool) (g : Nat) (out : List UInt8) (cs : List Code) (w : World) (Q : Exit → Act → World → Prop)
    (hA : 0 ≤ A) (hB : Buf w g v out) (hlen : out.length ≤ 600000) (ht : FmtT t v l nm off A dy yy true) (hs : ∀ h : 19 < t.size, t[19]'h = .int .i64 1045)
    (hK : ∀ (t' : Array Value) (g' : Nat) (v' : Value) (w' : World), Appended w g (out ++ El.text A nm off .pm) g' v' w' → FmtT t' v' l nm off A dy yy true → wpL Tryz.prog cs Q ⟨t', []⟩ w') :
    wpL Tryz.prog (fp 12 :: fp 13 :: cs) Q ⟨t, []⟩ w := by
  have hBlt := hB.lt
  obtain ⟨z, t1, t2, t7, t8, t9, t10, t11, t12, t13, t14, t15, t16, t17⟩ := ht
  try simp only [if_true, forall_const] at t11 t12 t13 t14 t15 t16 t17
  have hm : bits .and .i64 1045 65535 = 1045 := by decide
  have e : El.text A nm off .pm = if 12 ≤ A % 86400 / 3600 then [80, 77] else [65, 77] := rfl
  rw [e] at hK
  rcases Decidable.em (12 ≤ A % 86400 / 3600) with h0 | h0
  · simp only [h0, if_true] at hK
    refine wpL_cons ?_
    conv => arg 2; whnf
    repeat (first | ((with_reducible refine wp_cond_true ?_ ?_); (focus (go_simp; done))) | ((with_reducible refine wp_cond_false ?_ ?_); (focus (go_simp; done))) | go_guarded | go_step)
    refine wpL_cons ?_
    conv => arg 2; whnf
    repeat (first | ((with_reducible refine wp_cond_true ?_ ?_); (focus (go_simp; done))) | ((with_reducible refine wp_cond_false ?_ ?_); (focus (go_simp; done))) | (at_builtin; refine wpList_append_buf (y := .string ⟨#[80, 77]⟩) (news := [80, 77]) rfl _ _ 9 rfl (by go_simp) (by go_simp) (hB) (by exact bytesIn_string _ ⟨#[80, 77]⟩) (by (try simp only [List.length_append, List.length_cons, List.length_nil, bs_data]); omega) ?_; intro g1 v1 w1 happ1) | go_guarded | go_step)
    have R := happ1
    refine hK _ g1 v1 _ (by first | exact R | simpa only [d2, List.append_assoc, List.cons_append, List.nil_append] using R) ⟨?_, ?_, ?_, ?_, ?_, ?_, ?_, ?_, ?_, ?_, ?_, ?_, ?_, ?_⟩
    all_goals first | (simp [z]; done) | (intro h; simp [z, t1, t2, t7, t8, t9, t10, t11, t14, t15]; done) | (intro hc h; simp [z, t12 hc]; done) | (intro hc h; simp [z, t13 hc]; done) | (intro hc h; simp [z, t16 hc]; done) | (intro hc h; simp [z, t17 hc]; done) | (intro hc h; simp [z, t12]; done) | (intro hc h; simp [z, t13]; done) | (intro hc h; simp [z, t16]; done) | (intro hc h; simp [z, t17]; done)
  · simp only [h0, if_false] at hK
    refine wpL_cons ?_
    conv => arg 2; whnf
    repeat (first | ((with_reducible refine wp_cond_true ?_ ?_); (focus (go_simp; done))) | ((with_reducible refine wp_cond_false ?_ ?_); (focus (go_simp; done))) | go_guarded | go_step)
    refine wpL_cons ?_
    conv => arg 2; whnf
    repeat (first | ((with_reducible refine wp_cond_true ?_ ?_); (focus (go_simp; done))) | ((with_reducible refine wp_cond_false ?_ ?_); (focus (go_simp; done))) | (at_builtin; refine wpList_append_buf (y := .string ⟨#[65, 77]⟩) (news := [65, 77]) rfl _ _ 9 rfl (by go_simp) (by go_simp) (hB) (by exact bytesIn_string _ ⟨#[65, 77]⟩) (by (try simp only [List.length_append, List.length_cons, List.length_nil, bs_data]); omega) ?_; intro g1 v1 w1 happ1) | go_guarded | go_step)
    have R := happ1
    refine hK _ g1 v1 _ (by first | exact R | simpa only [d2, List.append_assoc, List.cons_append, List.nil_append] using R) ⟨?_, ?_, ?_, ?_, ?_, ?_, ?_, ?_, ?_, ?_, ?_, ?_, ?_, ?_⟩
    all_goals first | (simp [z]; done) | (intro h; simp [z, t1, t2, t7, t8, t9, t10, t11, t14, t15]; done) | (intro hc h; simp [z, t12 hc]; done) | (intro hc h; simp [z, t13 hc]; done) | (intro hc h; simp [z, t16 hc]; done) | (intro hc h; simp [z, t17 hc]; done) | (intro hc h; simp [z, t12]; done) | (intro hc h; simp [z, t13]; done) | (intro hc h; simp [z, t16]; done) | (intro hc h; simp [z, t17]; done)

set_option maxRecDepth 1000000 in
set_option maxHeartbeats 4000000 in
theorem piece_u2 (t : Array Value) (v : Value) (l : List UInt8) (nm : ByteArray) (off A : Int) (yy ck : Bool) (g : Nat) (out : List UInt8) (cs : List Code) (w : World) (Q : Exit → Act → World → Prop)
    (hd0 : 1 ≤ dayF (A / 86400)) (hd1 : dayF (A / 86400) ≤ 31) (hB : Buf w g v out) (hlen : out.length ≤ 600000) (ht : FmtT t v l nm off A true yy ck) (hs : ∀ h : 19 < t.size, t[19]'h = .int .i64 264)
    (hK : ∀ (t' : Array Value) (g' : Nat) (v' : Value) (w' : World), Appended w g (out ++ El.text A nm off .u2) g' v' w' → FmtT t' v' l nm off A true yy ck → wpL Tryz.prog cs Q ⟨t', []⟩ w') :
    wpL Tryz.prog (fp 12 :: fp 13 :: cs) Q ⟨t, []⟩ w := by
  have hBlt := hB.lt
  obtain ⟨z, t1, t2, t7, t8, t9, t10, t11, t12, t13, t14, t15, t16, t17⟩ := ht
  try simp only [if_true, forall_const] at t11 t12 t13 t14 t15 t16 t17
  have hm : bits .and .i64 264 65535 = 264 := by decide
  have e : El.text A nm off .u2 = if dayF (A / 86400) < 10 then [32, dg (dayF (A / 86400))] else d2 (dayF (A / 86400)) := rfl
  rw [e] at hK
  rcases Decidable.em (dayF (A / 86400) < 10) with h0 | h0
  · simp only [h0, if_true] at hK
    refine wpL_cons ?_
    conv => arg 2; whnf
    repeat (first | ((with_reducible refine wp_cond_true ?_ ?_); (focus (go_simp; done))) | ((with_reducible refine wp_cond_false ?_ ?_); (focus (go_simp; done))) | go_guarded | go_step)
    refine wpL_cons ?_
    conv => arg 2; whnf
    repeat (first | ((with_reducible refine wp_cond_true ?_ ?_); (focus (go_simp; done))) | ((with_reducible refine wp_cond_false ?_ ?_); (focus (go_simp; done))) | (at_builtin; refine wpList_append_buf rfl _ _ 34 rfl (by go_simp) (by go_simp) (hB.alloc _) (bytesIn_new1 _ 32 _ rfl) (by (try simp only [List.length_append, List.length_cons, List.length_nil, bs_data]); omega) ?_; intro g1 v1 w1 happ1) | (go_at_call 110; refine (appendInt_0_1 _ (dayF (A / 86400)) _ _ _ happ1.buf (by omega) (by omega) (by (try simp only [List.length_append, List.length_cons, List.length_nil, bs_data]); omega)).mono ?_; rintro e w2 ⟨g2, v2, rfl, happ2⟩; dsimp only) | go_guarded | go_step)
    have R := (Appended.pre ((Below.refl _ w).alloc (Nat.le_refl _) _) happ1).trans happ2
    refine hK _ g2 v2 _ (by first | exact R | simpa only [d2, List.append_assoc, List.cons_append, List.nil_append] using R) ⟨?_, ?_, ?_, ?_, ?_, ?_, ?_, ?_, ?_, ?_, ?_, ?_, ?_, ?_⟩
    all_goals first | (simp [z]; done) | (intro h; simp [z, t1, t2, t7, t8, t9, t10, t11, t14, t15]; done) | (intro hc h; simp [z, t12 hc]; done) | (intro hc h; simp [z, t13 hc]; done) | (intro hc h; simp [z, t16 hc]; done) | (intro hc h; simp [z, t17 hc]; done) | (intro hc h; simp [z, t12]; done) | (intro hc h; simp [z, t13]; done) | (intro hc h; simp [z, t16]; done) | (intro hc h; simp [z, t17]; done)
  · simp only [h0, if_false] at hK
    refine wpL_cons ?_
    conv => arg 2; whnf
    repeat (first | ((with_reducible refine wp_cond_true ?_ ?_); (focus (go_simp; done))) | ((with_reducible refine wp_cond_false ?_ ?_); (focus (go_simp; done))) | go_guarded | go_step)
    refine wpL_cons ?_
    conv => arg 2; whnf
    repeat (first | ((with_reducible refine wp_cond_true ?_ ?_); (focus (go_simp; done))) | ((with_reducible refine wp_cond_false ?_ ?_); (focus (go_simp; done))) | (go_at_call 110; refine (appendInt_0_2 _ (dayF (A / 86400)) _ _ _ hB (by omega) (by omega) (by (try simp only [List.length_append, List.length_cons, List.length_nil, bs_data]); omega)).mono ?_; rintro e w1 ⟨g1, v1, rfl, happ1⟩; dsimp only) | go_guarded | go_step)
    have R := happ1
    refine hK _ g1 v1 _ (by first | exact R | simpa only [d2, List.append_assoc, List.cons_append, List.nil_append] using R) ⟨?_, ?_, ?_, ?_, ?_, ?_, ?_, ?_, ?_, ?_, ?_, ?_, ?_, ?_⟩
    all_goals first | (simp [z]; done) | (intro h; simp [z, t1, t2, t7, t8, t9, t10, t11, t14, t15]; done) | (intro hc h; simp [z, t12 hc]; done) | (intro hc h; simp [z, t13 hc]; done) | (intro hc h; simp [z, t16 hc]; done) | (intro hc h; simp [z, t17 hc]; done) | (intro hc h; simp [z, t12]; done) | (intro hc h; simp [z, t13]; done) | (intro hc h; simp [z, t16]; done) | (intro hc h; simp [z, t17]; done)

set_option maxRecDepth 1000000 in
set_option maxHeartbeats 4000000 in
theorem piece_mst (t : Array Value) (v : Value) (l : List UInt8) (nm : ByteArray) (off A : Int) (dy yy ck : Bool) (g : Nat) (out : List UInt8) (cs : List Code) (w : World) (Q : Exit → Act → World → Prop)
    (c : UInt8) (q : List UInt8) (hnm : nm = bs (c :: q)) (hq : q.length ≤ 1000) (hB : Buf w g v out) (hlen : out.length ≤ 600000) (ht : FmtT t v l nm off A dy yy ck) (hs : ∀ h : 19 < t.size, t[19]'h = .int .i64 23)
    (hK : ∀ (t' : Array Value) (g' : Nat) (v' : Value) (w' : World), Appended w g (out ++ El.text A nm off .mst) g' v' w' → FmtT t' v' l nm off A dy yy ck → wpL Tryz.prog cs Q ⟨t', []⟩ w') :
    wpL Tryz.prog (fp 12 :: fp 13 :: cs) Q ⟨t, []⟩ w := by
  have hBlt := hB.lt
  obtain ⟨z, t1, t2, t7, t8, t9, t10, t11, t12, t13, t14, t15, t16, t17⟩ := ht
  try simp only [if_true, forall_const] at t11 t12 t13 t14 t15 t16 t17
  have hm : bits .and .i64 23 65535 = 23 := by decide
  subst hnm
  have hbt := bs_toList (c :: q)
  have e : El.text A (bs (c :: q)) off .mst = c :: q := by simp only [El.text, bs_data]
  rw [e] at hK
  · skip
    refine wpL_cons ?_
    conv => arg 2; whnf
    repeat (first | ((with_reducible refine wp_cond_true ?_ ?_); (focus (go_simp; done))) | ((with_reducible refine wp_cond_false ?_ ?_); (focus (go_simp; done))) | go_guarded | go_step)
    refine wpL_cons ?_
    conv => arg 2; whnf
    repeat (first | ((with_reducible refine wp_cond_true ?_ ?_); (focus (go_simp; done))) | ((with_reducible refine wp_cond_false ?_ ?_); (focus (go_simp; done))) | (at_builtin; refine wpList_append_buf rfl _ _ 9 rfl (by go_simp) (by go_simp) (hB) (bytesIn_string _ (bs (c :: q))) (by (try simp only [List.length_append, List.length_cons, List.length_nil, bs_data]); omega) ?_; intro g1 v1 w1 happ1; try rw [bs_data] at happ1) | go_guarded | go_step)
    have R := happ1
    refine hK _ g1 v1 _ (by first | exact R | simpa only [d2, List.append_assoc, List.cons_append, List.nil_append] using R) ⟨?_, ?_, ?_, ?_, ?_, ?_, ?_, ?_, ?_, ?_, ?_, ?_, ?_, ?_⟩
    all_goals first | (simp [z]; done) | (intro h; simp [z, t1, t2, t7, t8, t9, t10, t11, t14, t15]; done) | (intro hc h; simp [z, t12 hc]; done) | (intro hc h; simp [z, t13 hc]; done) | (intro hc h; simp [z, t16 hc]; done) | (intro hc h; simp [z, t17 hc]; done) | (intro hc h; simp [z, t12]; done) | (intro hc h; simp [z, t13]; done) | (intro hc h; simp [z, t16]; done) | (intro hc h; simp [z, t17]; done)

end Go.Proofs.YtkcgngpoegglnaaGreatDoor
