/- The printing of a time by a layout: the last pieces of a round: the element's own text. -/
import Derived.Test.YtkcgngpoegglnaaGreatDoorM13
import Derived.Test.YtkcgngpoegglnaaGreatDoorM10
namespace Go.Proofs.YtkcgngpoegglnaaGreatDoor
open Go Go.RowKit
set_option linter.unusedVariables false
set_option linter.unusedSimpArgs false

set_option maxRecDepth 1000000 in
set_option maxHeartbeats 4000000 in
theorem piece_z1 (t : Array Value) (v : Value) (l : List UInt8) (nm : ByteArray) (off A : Int) (yy ck : Bool) (g : Nat) (out : List UInt8) (cs : List Code) (w : World) (Q : Exit → Act → World → Prop)
    (hx0 : 0 ≤ monthF (A / 86400)) (hx1 : monthF (A / 86400) ≤ 99) (hB : Buf w g v out) (hlen : out.length ≤ 600000) (ht : FmtT t v l nm off A true yy ck) (hs : ∀ h : 19 < t.size, t[19]'h = .int .i64 260)
    (hK : ∀ (t' : Array Value) (g' : Nat) (v' : Value) (w' : World), Appended w g (out ++ El.text A nm off .z1) g' v' w' → FmtT t' v' l nm off A true yy ck → wpL Tryz.prog cs Q ⟨t', []⟩ w') :
    wpL Tryz.prog (fp 12 :: fp 13 :: cs) Q ⟨t, []⟩ w := by
  obtain ⟨z, t1, t2, t7, t8, t9, t10, t11, t12, t13, t14, t15, t16, t17⟩ := ht
  simp only [if_true, forall_const] at t11 t12 t13 t14 t15 t16 t17
  have hm : bits .and .i64 260 65535 = 260 := by decide
  refine wpL_cons ?_
  conv => arg 2; whnf
  repeat (first | ((with_reducible refine wp_cond_true ?_ ?_); (focus (go_simp; done))) | ((with_reducible refine wp_cond_false ?_ ?_); (focus (go_simp; done))) | go_guarded | go_step)
  refine wpL_cons ?_
  conv => arg 2; whnf
  repeat (first | ((with_reducible refine wp_cond_true ?_ ?_); (focus (go_simp; done))) | ((with_reducible refine wp_cond_false ?_ ?_); (focus (go_simp; done))) | go_guarded | go_step)
  go_at_call 110
  refine (appendInt_two _ (monthF (A / 86400)) _ _ _ hB (by omega) (by omega) (by (try simp only [List.length_append, List.length_cons, List.length_nil]); omega)).mono ?_
  rintro e w1 ⟨g1, v1, rfl, happ1⟩
  dsimp only
  repeat (first | ((with_reducible refine wp_cond_true ?_ ?_); (focus (go_simp; done))) | ((with_reducible refine wp_cond_false ?_ ?_); (focus (go_simp; done))) | go_guarded | go_step)
  have R := happ1
  skip
  refine hK _ g1 v1 _ R ⟨?_, ?_, ?_, ?_, ?_, ?_, ?_, ?_, ?_, ?_, ?_, ?_, ?_, ?_⟩
  all_goals first | (simp [z]; done) | (intro h; simp [z, t1, t2, t7, t8, t9, t10, t11, t14, t15]; done) | (intro hc h; simp [z, t12 hc]; done) | (intro hc h; simp [z, t13 hc]; done) | (intro hc h; simp [z, t16 hc]; done) | (intro hc h; simp [z, t17 hc]; done) | (intro hc h; simp [z, t12]; done) | (intro hc h; simp [z, t13]; done) | (intro hc h; simp [z, t16]; done) | (intro hc h; simp [z, t17]; done)

set_option maxRecDepth 1000000 in
set_option maxHeartbeats 4000000 in
theorem piece_z2 (t : Array Value) (v : Value) (l : List UInt8) (nm : ByteArray) (off A : Int) (yy ck : Bool) (g : Nat) (out : List UInt8) (cs : List Code) (w : World) (Q : Exit → Act → World → Prop)
    (hx0 : 0 ≤ dayF (A / 86400)) (hx1 : dayF (A / 86400) ≤ 99) (hB : Buf w g v out) (hlen : out.length ≤ 600000) (ht : FmtT t v l nm off A true yy ck) (hs : ∀ h : 19 < t.size, t[19]'h = .int .i64 265)
    (hK : ∀ (t' : Array Value) (g' : Nat) (v' : Value) (w' : World), Appended w g (out ++ El.text A nm off .z2) g' v' w' → FmtT t' v' l nm off A true yy ck → wpL Tryz.prog cs Q ⟨t', []⟩ w') :
    wpL Tryz.prog (fp 12 :: fp 13 :: cs) Q ⟨t, []⟩ w := by
  obtain ⟨z, t1, t2, t7, t8, t9, t10, t11, t12, t13, t14, t15, t16, t17⟩ := ht
  simp only [if_true, forall_const] at t11 t12 t13 t14 t15 t16 t17
  have hm : bits .and .i64 265 65535 = 265 := by decide
  refine wpL_cons ?_
  conv => arg 2; whnf
  repeat (first | ((with_reducible refine wp_cond_true ?_ ?_); (focus (go_simp; done))) | ((with_reducible refine wp_cond_false ?_ ?_); (focus (go_simp; done))) | go_guarded | go_step)
  refine wpL_cons ?_
  conv => arg 2; whnf
  repeat (first | ((with_reducible refine wp_cond_true ?_ ?_); (focus (go_simp; done))) | ((with_reducible refine wp_cond_false ?_ ?_); (focus (go_simp; done))) | go_guarded | go_step)
  go_at_call 110
  refine (appendInt_two _ (dayF (A / 86400)) _ _ _ hB (by omega) (by omega) (by (try simp only [List.length_append, List.length_cons, List.length_nil]); omega)).mono ?_
  rintro e w1 ⟨g1, v1, rfl, happ1⟩
  dsimp only
  repeat (first | ((with_reducible refine wp_cond_true ?_ ?_); (focus (go_simp; done))) | ((with_reducible refine wp_cond_false ?_ ?_); (focus (go_simp; done))) | go_guarded | go_step)
  have R := happ1
  skip
  refine hK _ g1 v1 _ R ⟨?_, ?_, ?_, ?_, ?_, ?_, ?_, ?_, ?_, ?_, ?_, ?_, ?_, ?_⟩
  all_goals first | (simp [z]; done) | (intro h; simp [z, t1, t2, t7, t8, t9, t10, t11, t14, t15]; done) | (intro hc h; simp [z, t12 hc]; done) | (intro hc h; simp [z, t13 hc]; done) | (intro hc h; simp [z, t16 hc]; done) | (intro hc h; simp [z, t17 hc]; done) | (intro hc h; simp [z, t12]; done) | (intro hc h; simp [z, t13]; done) | (intro hc h; simp [z, t16]; done) | (intro hc h; simp [z, t17]; done)

set_option maxRecDepth 1000000 in
set_option maxHeartbeats 4000000 in
theorem piece_z4 (t : Array Value) (v : Value) (l : List UInt8) (nm : ByteArray) (off A : Int) (dy yy : Bool) (g : Nat) (out : List UInt8) (cs : List Code) (w : World) (Q : Exit → Act → World → Prop)
    (hx0 : 0 ≤ A % 3600 / 60) (hx1 : A % 3600 / 60 ≤ 99) (hB : Buf w g v out) (hlen : out.length ≤ 600000) (ht : FmtT t v l nm off A dy yy true) (hs : ∀ h : 19 < t.size, t[19]'h = .int .i64 1040)
    (hK : ∀ (t' : Array Value) (g' : Nat) (v' : Value) (w' : World), Appended w g (out ++ El.text A nm off .z4) g' v' w' → FmtT t' v' l nm off A dy yy true → wpL Tryz.prog cs Q ⟨t', []⟩ w') :
    wpL Tryz.prog (fp 12 :: fp 13 :: cs) Q ⟨t, []⟩ w := by
  obtain ⟨z, t1, t2, t7, t8, t9, t10, t11, t12, t13, t14, t15, t16, t17⟩ := ht
  simp only [if_true, forall_const] at t11 t12 t13 t14 t15 t16 t17
  have hm : bits .and .i64 1040 65535 = 1040 := by decide
  refine wpL_cons ?_
  conv => arg 2; whnf
  repeat (first | ((with_reducible refine wp_cond_true ?_ ?_); (focus (go_simp; done))) | ((with_reducible refine wp_cond_false ?_ ?_); (focus (go_simp; done))) | go_guarded | go_step)
  refine wpL_cons ?_
  conv => arg 2; whnf
  repeat (first | ((with_reducible refine wp_cond_true ?_ ?_); (focus (go_simp; done))) | ((with_reducible refine wp_cond_false ?_ ?_); (focus (go_simp; done))) | go_guarded | go_step)
  go_at_call 110
  refine (appendInt_two _ (A % 3600 / 60) _ _ _ hB (by omega) (by omega) (by (try simp only [List.length_append, List.length_cons, List.length_nil]); omega)).mono ?_
  rintro e w1 ⟨g1, v1, rfl, happ1⟩
  dsimp only
  repeat (first | ((with_reducible refine wp_cond_true ?_ ?_); (focus (go_simp; done))) | ((with_reducible refine wp_cond_false ?_ ?_); (focus (go_simp; done))) | go_guarded | go_step)
  have R := happ1
  skip
  refine hK _ g1 v1 _ R ⟨?_, ?_, ?_, ?_, ?_, ?_, ?_, ?_, ?_, ?_, ?_, ?_, ?_, ?_⟩
  all_goals first | (simp [z]; done) | (intro h; simp [z, t1, t2, t7, t8, t9, t10, t11, t14, t15]; done) | (intro hc h; simp [z, t12 hc]; done) | (intro hc h; simp [z, t13 hc]; done) | (intro hc h; simp [z, t16 hc]; done) | (intro hc h; simp [z, t17 hc]; done) | (intro hc h; simp [z, t12]; done) | (intro hc h; simp [z, t13]; done) | (intro hc h; simp [z, t16]; done) | (intro hc h; simp [z, t17]; done)

set_option maxRecDepth 1000000 in
set_option maxHeartbeats 4000000 in
theorem piece_z5 (t : Array Value) (v : Value) (l : List UInt8) (nm : ByteArray) (off A : Int) (dy yy : Bool) (g : Nat) (out : List UInt8) (cs : List Code) (w : World) (Q : Exit → Act → World → Prop)
    (hx0 : 0 ≤ A % 60) (hx1 : A % 60 ≤ 99) (hB : Buf w g v out) (hlen : out.length ≤ 600000) (ht : FmtT t v l nm off A dy yy true) (hs : ∀ h : 19 < t.size, t[19]'h = .int .i64 1042)
    (hK : ∀ (t' : Array Value) (g' : Nat) (v' : Value) (w' : World), Appended w g (out ++ El.text A nm off .z5) g' v' w' → FmtT t' v' l nm off A dy yy true → wpL Tryz.prog cs Q ⟨t', []⟩ w') :
    wpL Tryz.prog (fp 12 :: fp 13 :: cs) Q ⟨t, []⟩ w := by
  obtain ⟨z, t1, t2, t7, t8, t9, t10, t11, t12, t13, t14, t15, t16, t17⟩ := ht
  simp only [if_true, forall_const] at t11 t12 t13 t14 t15 t16 t17
  have hm : bits .and .i64 1042 65535 = 1042 := by decide
  refine wpL_cons ?_
  conv => arg 2; whnf
  repeat (first | ((with_reducible refine wp_cond_true ?_ ?_); (focus (go_simp; done))) | ((with_reducible refine wp_cond_false ?_ ?_); (focus (go_simp; done))) | go_guarded | go_step)
  refine wpL_cons ?_
  conv => arg 2; whnf
  repeat (first | ((with_reducible refine wp_cond_true ?_ ?_); (focus (go_simp; done))) | ((with_reducible refine wp_cond_false ?_ ?_); (focus (go_simp; done))) | go_guarded | go_step)
  go_at_call 110
  refine (appendInt_two _ (A % 60) _ _ _ hB (by omega) (by omega) (by (try simp only [List.length_append, List.length_cons, List.length_nil]); omega)).mono ?_
  rintro e w1 ⟨g1, v1, rfl, happ1⟩
  dsimp only
  repeat (first | ((with_reducible refine wp_cond_true ?_ ?_); (focus (go_simp; done))) | ((with_reducible refine wp_cond_false ?_ ?_); (focus (go_simp; done))) | go_guarded | go_step)
  have R := happ1
  skip
  refine hK _ g1 v1 _ R ⟨?_, ?_, ?_, ?_, ?_, ?_, ?_, ?_, ?_, ?_, ?_, ?_, ?_, ?_⟩
  all_goals first | (simp [z]; done) | (intro h; simp [z, t1, t2, t7, t8, t9, t10, t11, t14, t15]; done) | (intro hc h; simp [z, t12 hc]; done) | (intro hc h; simp [z, t13 hc]; done) | (intro hc h; simp [z, t16 hc]; done) | (intro hc h; simp [z, t17 hc]; done) | (intro hc h; simp [z, t12]; done) | (intro hc h; simp [z, t13]; done) | (intro hc h; simp [z, t16]; done) | (intro hc h; simp [z, t17]; done)

set_option maxRecDepth 1000000 in
set_option maxHeartbeats 4000000 in
theorem piece_h15 (t : Array Value) (v : Value) (l : List UInt8) (nm : ByteArray) (off A : Int) (dy yy : Bool) (g : Nat) (out : List UInt8) (cs : List Code) (w : World) (Q : Exit → Act → World → Prop)
    (hx0 : 0 ≤ A % 86400 / 3600) (hx1 : A % 86400 / 3600 ≤ 99) (hB : Buf w g v out) (hlen : out.length ≤ 600000) (ht : FmtT t v l nm off A dy yy true) (hs : ∀ h : 19 < t.size, t[19]'h = .int .i64 1036)
    (hK : ∀ (t' : Array Value) (g' : Nat) (v' : Value) (w' : World), Appended w g (out ++ El.text A nm off .h15) g' v' w' → FmtT t' v' l nm off A dy yy true → wpL Tryz.prog cs Q ⟨t', []⟩ w') :
    wpL Tryz.prog (fp 12 :: fp 13 :: cs) Q ⟨t, []⟩ w := by
  obtain ⟨z, t1, t2, t7, t8, t9, t10, t11, t12, t13, t14, t15, t16, t17⟩ := ht
  simp only [if_true, forall_const] at t11 t12 t13 t14 t15 t16 t17
  have hm : bits .and .i64 1036 65535 = 1036 := by decide
  refine wpL_cons ?_
  conv => arg 2; whnf
  repeat (first | ((with_reducible refine wp_cond_true ?_ ?_); (focus (go_simp; done))) | ((with_reducible refine wp_cond_false ?_ ?_); (focus (go_simp; done))) | go_guarded | go_step)
  refine wpL_cons ?_
  conv => arg 2; whnf
  repeat (first | ((with_reducible refine wp_cond_true ?_ ?_); (focus (go_simp; done))) | ((with_reducible refine wp_cond_false ?_ ?_); (focus (go_simp; done))) | go_guarded | go_step)
  go_at_call 110
  refine (appendInt_two _ (A % 86400 / 3600) _ _ _ hB (by omega) (by omega) (by (try simp only [List.length_append, List.length_cons, List.length_nil]); omega)).mono ?_
  rintro e w1 ⟨g1, v1, rfl, happ1⟩
  dsimp only
  repeat (first | ((with_reducible refine wp_cond_true ?_ ?_); (focus (go_simp; done))) | ((with_reducible refine wp_cond_false ?_ ?_); (focus (go_simp; done))) | go_guarded | go_step)
  have R := happ1
  skip
  refine hK _ g1 v1 _ R ⟨?_, ?_, ?_, ?_, ?_, ?_, ?_, ?_, ?_, ?_, ?_, ?_, ?_, ?_⟩
  all_goals first | (simp [z]; done) | (intro h; simp [z, t1, t2, t7, t8, t9, t10, t11, t14, t15]; done) | (intro hc h; simp [z, t12 hc]; done) | (intro hc h; simp [z, t13 hc]; done) | (intro hc h; simp [z, t16 hc]; done) | (intro hc h; simp [z, t17 hc]; done) | (intro hc h; simp [z, t12]; done) | (intro hc h; simp [z, t13]; done) | (intro hc h; simp [z, t16]; done) | (intro hc h; simp [z, t17]; done)

set_option maxRecDepth 1000000 in
set_option maxHeartbeats 4000000 in
theorem piece_z6 (t : Array Value) (v : Value) (l : List UInt8) (nm : ByteArray) (off A : Int) (yy ck : Bool) (g : Nat) (out : List UInt8) (cs : List Code) (w : World) (Q : Exit → Act → World → Prop)
    (hy : 0 ≤ yearF (A / 86400)) (hy2 : yearF (A / 86400) ≤ 99999) (hB : Buf w g v out) (hlen : out.length ≤ 600000) (ht : FmtT t v l nm off A true yy ck) (hs : ∀ h : 19 < t.size, t[19]'h = .int .i64 276)
    (hK : ∀ (t' : Array Value) (g' : Nat) (v' : Value) (w' : World), Appended w g (out ++ El.text A nm off .z6) g' v' w' → FmtT t' v' l nm off A true yy ck → wpL Tryz.prog cs Q ⟨t', []⟩ w') :
    wpL Tryz.prog (fp 12 :: fp 13 :: cs) Q ⟨t, []⟩ w := by
  obtain ⟨z, t1, t2, t7, t8, t9, t10, t11, t12, t13, t14, t15, t16, t17⟩ := ht
  simp only [if_true, forall_const] at t11 t12 t13 t14 t15 t16 t17
  have hm : bits .and .i64 276 65535 = 276 := by decide
  refine wpL_cons ?_
  conv => arg 2; whnf
  repeat (first | ((with_reducible refine wp_cond_true ?_ ?_); (focus (go_simp; done))) | ((with_reducible refine wp_cond_false ?_ ?_); (focus (go_simp; done))) | go_guarded | go_step)
  refine wpL_cons ?_
  conv => arg 2; whnf
  repeat (first | ((with_reducible refine wp_cond_true ?_ ?_); (focus (go_simp; done))) | ((with_reducible refine wp_cond_false ?_ ?_); (focus (go_simp; done))) | go_guarded | go_step)
  go_at_call 110
  refine (appendInt_two _ (yearF (A / 86400) % 100) _ _ _ hB (by omega) (by omega) (by (try simp only [List.length_append, List.length_cons, List.length_nil]); omega)).mono ?_
  rintro e w1 ⟨g1, v1, rfl, happ1⟩
  dsimp only
  repeat (first | ((with_reducible refine wp_cond_true ?_ ?_); (focus (go_simp; done))) | ((with_reducible refine wp_cond_false ?_ ?_); (focus (go_simp; done))) | go_guarded | go_step)
  have R := happ1
  skip
  refine hK _ g1 v1 _ R ⟨?_, ?_, ?_, ?_, ?_, ?_, ?_, ?_, ?_, ?_, ?_, ?_, ?_, ?_⟩
  all_goals first | (simp [z]; done) | (intro h; simp [z, t1, t2, t7, t8, t9, t10, t11, t14, t15]; done) | (intro hc h; simp [z, t12 hc]; done) | (intro hc h; simp [z, t13 hc]; done) | (intro hc h; simp [z, t16 hc]; done) | (intro hc h; simp [z, t17 hc]; done) | (intro hc h; simp [z, t12]; done) | (intro hc h; simp [z, t13]; done) | (intro hc h; simp [z, t16]; done) | (intro hc h; simp [z, t17]; done)

set_option maxRecDepth 1000000 in
set_option maxHeartbeats 4000000 in
theorem piece_y4 (t : Array Value) (v : Value) (l : List UInt8) (nm : ByteArray) (off A : Int) (yy ck : Bool) (g : Nat) (out : List UInt8) (cs : List Code) (w : World) (Q : Exit → Act → World → Prop)
    (hy : 0 ≤ yearF (A / 86400)) (hy2 : yearF (A / 86400) ≤ 9999) (hB : Buf w g v out) (hlen : out.length ≤ 600000) (ht : FmtT t v l nm off A true yy ck) (hs : ∀ h : 19 < t.size, t[19]'h = .int .i64 275)
    (hK : ∀ (t' : Array Value) (g' : Nat) (v' : Value) (w' : World), Appended w g (out ++ El.text A nm off .y4) g' v' w' → FmtT t' v' l nm off A true yy ck → wpL Tryz.prog cs Q ⟨t', []⟩ w') :
    wpL Tryz.prog (fp 12 :: fp 13 :: cs) Q ⟨t, []⟩ w := by
  obtain ⟨z, t1, t2, t7, t8, t9, t10, t11, t12, t13, t14, t15, t16, t17⟩ := ht
  simp only [if_true, forall_const] at t11 t12 t13 t14 t15 t16 t17
  have hm : bits .and .i64 275 65535 = 275 := by decide
  refine wpL_cons ?_
  conv => arg 2; whnf
  repeat (first | ((with_reducible refine wp_cond_true ?_ ?_); (focus (go_simp; done))) | ((with_reducible refine wp_cond_false ?_ ?_); (focus (go_simp; done))) | go_guarded | go_step)
  refine wpL_cons ?_
  conv => arg 2; whnf
  repeat (first | ((with_reducible refine wp_cond_true ?_ ?_); (focus (go_simp; done))) | ((with_reducible refine wp_cond_false ?_ ?_); (focus (go_simp; done))) | go_guarded | go_step)
  go_at_call 110
  refine (appendInt_four _ (yearF (A / 86400)) _ _ _ hB (by omega) (by omega) (by (try simp only [List.length_append, List.length_cons, List.length_nil]); omega)).mono ?_
  rintro e w1 ⟨g1, v1, rfl, happ1⟩
  dsimp only
  repeat (first | ((with_reducible refine wp_cond_true ?_ ?_); (focus (go_simp; done))) | ((with_reducible refine wp_cond_false ?_ ?_); (focus (go_simp; done))) | go_guarded | go_step)
  have R := happ1
  skip
  refine hK _ g1 v1 _ R ⟨?_, ?_, ?_, ?_, ?_, ?_, ?_, ?_, ?_, ?_, ?_, ?_, ?_, ?_⟩
  all_goals first | (simp [z]; done) | (intro h; simp [z, t1, t2, t7, t8, t9, t10, t11, t14, t15]; done) | (intro hc h; simp [z, t12 hc]; done) | (intro hc h; simp [z, t13 hc]; done) | (intro hc h; simp [z, t16 hc]; done) | (intro hc h; simp [z, t17 hc]; done) | (intro hc h; simp [z, t12]; done) | (intro hc h; simp [z, t13]; done) | (intro hc h; simp [z, t16]; done) | (intro hc h; simp [z, t17]; done)

set_option maxRecDepth 1000000 in
set_option maxHeartbeats 4000000 in
theorem piece_z002 (t : Array Value) (v : Value) (l : List UInt8) (nm : ByteArray) (off A : Int) (dy ck : Bool) (g : Nat) (out : List UInt8) (cs : List Code) (w : World) (Q : Exit → Act → World → Prop)
    (hy : 1 ≤ ydayF (A / 86400)) (hy2 : ydayF (A / 86400) ≤ 366) (hB : Buf w g v out) (hlen : out.length ≤ 600000) (ht : FmtT t v l nm off A dy true ck) (hs : ∀ h : 19 < t.size, t[19]'h = .int .i64 523)
    (hK : ∀ (t' : Array Value) (g' : Nat) (v' : Value) (w' : World), Appended w g (out ++ El.text A nm off .z002) g' v' w' → FmtT t' v' l nm off A dy true ck → wpL Tryz.prog cs Q ⟨t', []⟩ w') :
    wpL Tryz.prog (fp 12 :: fp 13 :: cs) Q ⟨t, []⟩ w := by
  obtain ⟨z, t1, t2, t7, t8, t9, t10, t11, t12, t13, t14, t15, t16, t17⟩ := ht
  simp only [if_true, forall_const] at t11 t12 t13 t14 t15 t16 t17
  have hm : bits .and .i64 523 65535 = 523 := by decide
  refine wpL_cons ?_
  conv => arg 2; whnf
  repeat (first | ((with_reducible refine wp_cond_true ?_ ?_); (focus (go_simp; done))) | ((with_reducible refine wp_cond_false ?_ ?_); (focus (go_simp; done))) | go_guarded | go_step)
  refine wpL_cons ?_
  conv => arg 2; whnf
  repeat (first | ((with_reducible refine wp_cond_true ?_ ?_); (focus (go_simp; done))) | ((with_reducible refine wp_cond_false ?_ ?_); (focus (go_simp; done))) | go_guarded | go_step)
  go_at_call 110
  refine (appendInt_three _ (ydayF (A / 86400)) _ _ _ hB (by omega) (by omega) (by (try simp only [List.length_append, List.length_cons, List.length_nil]); omega)).mono ?_
  rintro e w1 ⟨g1, v1, rfl, happ1⟩
  dsimp only
  repeat (first | ((with_reducible refine wp_cond_true ?_ ?_); (focus (go_simp; done))) | ((with_reducible refine wp_cond_false ?_ ?_); (focus (go_simp; done))) | go_guarded | go_step)
  have R := happ1
  skip
  refine hK _ g1 v1 _ R ⟨?_, ?_, ?_, ?_, ?_, ?_, ?_, ?_, ?_, ?_, ?_, ?_, ?_, ?_⟩
  all_goals first | (simp [z]; done) | (intro h; simp [z, t1, t2, t7, t8, t9, t10, t11, t14, t15]; done) | (intro hc h; simp [z, t12 hc]; done) | (intro hc h; simp [z, t13 hc]; done) | (intro hc h; simp [z, t16 hc]; done) | (intro hc h; simp [z, t17 hc]; done) | (intro hc h; simp [z, t12]; done) | (intro hc h; simp [z, t13]; done) | (intro hc h; simp [z, t16]; done) | (intro hc h; simp [z, t17]; done)

end Go.Proofs.YtkcgngpoegglnaaGreatDoor
