/- The first package: a map from letters to appenders, filled entry by entry and asked. · The printing of a time by a layout: the frame of a round, and the rounds' first pieces. -/
import Derived.MapKept
import Derived.Test.YtkcgngpoegglnaaGreatDoorM05
import Derived.Test.YtkcgngpoegglnaaGreatDoorM03
import Derived.Test.YtkcgngpoegglnaaGreatDoorM12
import Derived.Test.YtkcgngpoegglnaaGreatDoorM10
import Derived.Test.YtkcgngpoegglnaaGreatDoorM01
/- The first package: a map from letters to appenders, filled entry by entry and asked. -/
section
namespace Go.Proofs.YtkcgngpoegglnaaGreatDoor
open Go Go.RowKit
set_option linter.unusedVariables false
set_option linter.unusedSimpArgs false

/-- the entries of a map are these letters and appenders, in order. -/
def MRows (w : World) : List MapEntry → List (UInt8 × Ap) → Prop
  | [], [] => True
  | e :: es, p :: L => (e.key = .int .u8 p.1.toNat ∧ ApIs w e.val p.2) ∧ MRows w es L
  | _, _ => False

theorem MRows.keep {w w' : World} (hk : ∀ v a, ApIs w v a → ApIs w' v a) : ∀ (es : List MapEntry) (L : List (UInt8 × Ap)), MRows w es L → MRows w' es L
  | [], [], _ => trivial
  | e :: es, p :: L, h => ⟨⟨h.1.1, hk _ _ h.1.2⟩, MRows.keep hk es L h.2⟩

theorem MRows.push {w : World} (e : MapEntry) (p : UInt8 × Ap) (hp : e.key = .int .u8 p.1.toNat ∧ ApIs w e.val p.2) : ∀ (es : List MapEntry) (L : List (UInt8 × Ap)), MRows w es L → MRows w (es ++ [e]) (L ++ [p])
  | [], [], _ => ⟨hp, trivial⟩
  | d :: es, q :: L, h => ⟨h.1, MRows.push e p hp es L h.2⟩

/-- the map in block M. -/
def MS (w : World) (M : Nat) (L : List (UInt8 × Ap)) : Prop := ∃ es clock, w.heap[M]? = some (.map es clock) ∧ MRows w es.toList L

theorem MS.lt {w : World} {M : Nat} {L : List (UInt8 × Ap)} (h : MS w M L) : M < w.heap.size := by
  obtain ⟨es, c, h, _⟩ := h
  exact (Array.getElem?_eq_some_iff.1 h).1

theorem MS.below {w w' : World} {M : Nat} {L : List (UInt8 × Ap)} (h : MS w M L) (hb : Below w.heap.size w w') : MS w' M L := by
  have hlt := h.lt
  obtain ⟨es, c, hM, hr⟩ := h
  exact ⟨es, c, (hb.block M hlt).trans hM, MRows.keep (fun _ _ h => ApIs.below h hb) _ _ hr⟩

theorem findNow_none {w : World} (c : UInt8) : ∀ (es : List MapEntry) (L : List (UInt8 × Ap)) (i : Nat), MRows w es L → (∀ p ∈ L, p.1 ≠ c) → Instr.findNow (.int .u8) (.int .u8 c.toNat) es i = some none
  | [], [], _, _, _ => rfl
  | e :: es, p :: L, i, h, hn => by
    have hne : (((c.toNat : Int)) == (p.1.toNat : Int)) = false := by
      rw [beq_eq_false_iff_ne]
      intro e
      exact hn p List.mem_cons_self (UInt8.toNat.inj (by omega)).symm
    unfold Instr.findNow
    rw [h.1.1]
    simp only [Instr.sameNow, if_true, hne]
    exact findNow_none c es L (i + 1) h.2 fun q hq => hn q (List.mem_cons_of_mem _ hq)

theorem findNow_some {w : World} (c : UInt8) (a : Ap) : ∀ (es : List MapEntry) (L : List (UInt8 × Ap)) (i : Nat), MRows w es L → L.lookup c = some a → ∃ j v, Instr.findNow (.int .u8) (.int .u8 c.toNat) es i = some (some (j, v)) ∧ ApIs w v a
  | [], [], _, _, h => by cases h
  | e :: es, p :: L, i, h, hl => by
    unfold Instr.findNow
    rw [h.1.1]
    by_cases hc : c = p.1
    · subst hc
      have hl' : p.2 = a := by
        obtain ⟨x, y⟩ := p
        simp [List.lookup] at hl
        exact hl
      refine ⟨i, e.val, ?_, hl' ▸ h.1.2⟩
      simp [Instr.sameNow]
    · have hne : (((c.toNat : Int)) == (p.1.toNat : Int)) = false := by
        rw [beq_eq_false_iff_ne]
        intro e
        exact hc (UInt8.toNat.inj (by omega))
      have hl' : L.lookup c = some a := by
        obtain ⟨x, y⟩ := p
        have : (c == x) = false := by simpa using hc
        simpa [List.lookup, this] using hl
      obtain ⟨j, v, h1, h2⟩ := findNow_some c a es L (i + 1) h.2 hl'
      refine ⟨j, v, ?_, h2⟩
      simp only [Instr.sameNow, if_true, hne]
      exact h1

theorem key_u8 (c : UInt8) (e : Bool) (w : World) : (Instr.checkKey e 10000 5 (.int .u8 c.toNat)).run Tryz.prog w = .ok () w :=
  MapKept.run_checkKey (k := .int .u8 c.toNat) Tryz.underlying5 (by simp [MapKept.IsKey]) e 9999

theorem run_insert_u8 {w : World} {M : Nat} {L : List (UInt8 × Ap)} (c : UInt8) (a : Ap) (x : Value) (h : MS w M L) (hf : ∀ p ∈ L, p.1 ≠ c) (hx : ApIs w x a) :
    ∃ w', (Instr.mapUpdate 214 (.map (some M)) (.int .u8 c.toNat) x).run Tryz.prog w = .ok () w' ∧ MS w' M (L ++ [(c, a)]) ∧ w.grownBy w' (some M) := by
  have hlt := h.lt
  obtain ⟨es, clock, hM, hr⟩ := h
  have hfn := findNow_none c es.toList L 0 hr hf
  refine ⟨{ w with heap := w.heap.setIfInBounds M (.map (es.push { key := .int .u8 c.toNat, val := x, born := clock }) (clock + 1)) }, ?_, ⟨es.push { key := .int .u8 c.toNat, val := x, born := clock }, clock + 1, ?_, ?_⟩, ⟨rfl, rfl, rfl, by simp, fun k hk hne => ?_⟩⟩
  · simp [Instr.mapUpdate, run_underlying Tryz.underlying214, MapKept.run_getObj_map hM, key_u8, Instr.findKey, run_underlying Tryz.underlying5, hfn, MapKept.run_setObj_map _ hM]
  · show (w.heap.setIfInBounds M _)[M]? = _
    rw [Array.getElem?_setIfInBounds_self_of_lt hlt]
  · rw [Array.toList_push]
    have k : ∀ v b, ApIs w v b → ApIs { w with heap := w.heap.setIfInBounds M (.map (es.push { key := .int .u8 c.toNat, val := x, born := clock }) (clock + 1)) } v b := fun v b hv => hv.keep fun p s t hp => by
      show (w.heap.setIfInBounds M _)[p]? = _
      rw [Array.getElem?_setIfInBounds_ne]
      rintro rfl
      rw [hM] at hp
      cases hp
    exact MRows.push _ _ ⟨rfl, k _ _ hx⟩ _ _ (MRows.keep k _ _ hr)
  · show (w.heap.setIfInBounds M _)[k]? = _
    rw [Array.getElem?_setIfInBounds_ne]
    intro e
    exact hne (by rw [e])

theorem wpList_insert_u8 {ops : Array Oper} {rest : List Oper} {o : Oper} {ac : Act} {w : World} {Q : Exit → Act → World → Prop} (hgd : o.guard = none) (m k x : Operand) (ho : o.op = .insert 214 m k x) {M : Nat} {L : List (UInt8 × Ap)} (c : UInt8) (a : Ap) {v : Value}
    (hm : ac.eval m = .map (some M)) (hk : ac.eval k = .int .u8 c.toNat) (hv : ac.eval x = v) (h : MS w M L) (hf : ∀ p ∈ L, p.1 ≠ c) (hx : ApIs w v a)
    (hK : ∀ w', MS w' M (L ++ [(c, a)]) → w.grownBy w' (some M) → wpList Tryz.prog ops Q rest (ac.put o.dst undef) w') : wpList Tryz.prog ops Q (o :: rest) ac w := by
  refine wpList_plain hgd fun K hK' => ?_
  obtain ⟨w', hr, h1, h2⟩ := run_insert_u8 c a v h hf hx
  unfold Oper.wp
  simp [execOp, ho, hm, hk, hv, hr, Result.andThen]
  exact hK' _ _ (hK w' h1 h2)

theorem zero_iface (w : World) : (zeroValue 72).run Tryz.prog w = .ok .nilIface w := by kernel_rfl

theorem lookup_some {w : World} {M : Nat} {L : List (UInt8 × Ap)} (c : UInt8) (a : Ap) (h : MS w M L) (hl : L.lookup c = some a) : ∃ v, (Instr.lookup 214 (.map (some M)) (.int .u8 c.toNat) true).run Tryz.prog w = .ok (.tuple #[v, .bool true]) w ∧ ApIs w v a := by
  obtain ⟨es, clock, hM, hr⟩ := h
  obtain ⟨j, v, h1, h2⟩ := findNow_some c a es.toList L 0 hr hl
  refine ⟨v, ?_, h2⟩
  simp [Instr.lookup, run_underlying Tryz.underlying214, MapKept.run_getObj_map hM, key_u8, Instr.findKey, run_underlying Tryz.underlying5, h1]

theorem lookup_none {w : World} {M : Nat} {L : List (UInt8 × Ap)} (c : UInt8) (h : MS w M L) (hl : L.lookup c = none) : (Instr.lookup 214 (.map (some M)) (.int .u8 c.toNat) true).run Tryz.prog w = .ok (.tuple #[.nilIface, .bool false]) w := by
  obtain ⟨es, clock, hM, hr⟩ := h
  have h1 := findNow_none c es.toList L 0 hr (fun p hp e => by
    obtain ⟨x, y⟩ := p
    simp at e
    subst e
    rw [List.lookup_eq_none_iff] at hl
    have := hl _ hp
    simp at this)
  simp [Instr.lookup, run_underlying Tryz.underlying214, MapKept.run_getObj_map hM, key_u8, Instr.findKey, run_underlying Tryz.underlying5, h1, zero_iface]
end Go.Proofs.YtkcgngpoegglnaaGreatDoor
end
/- The printing of a time by a layout: the frame of a round, and the rounds' first pieces. -/
section
namespace Go.Proofs.YtkcgngpoegglnaaGreatDoor
open Go Go.RowKit
set_option linter.unusedVariables false
set_option linter.unusedSimpArgs false

noncomputable def fmtBody : Code := ((Tryz.f94.body.bind firstLoop).getD .skip)
noncomputable def fmtHead : List Code := spine fmtBody
noncomputable def fmtPieces : List Code := spine (inBlockOf (fmtHead.getD 2 .skip))
noncomputable def fp (i : Nat) : Code := fmtPieces.getD i .skip

theorem fmtPieces_eq : fmtPieces = [fp 0, fp 1, fp 2, fp 3, fp 4, fp 5, fp 6, fp 7, fp 8, fp 9, fp 10, fp 11, fp 12, fp 13] := by kernel_rfl

/-- the values of a time that are reckoned when they are first asked for. -/
structure FmtT (t : Array Value) (v : Value) (l : List UInt8) (nm : ByteArray) (off A : Int) (dy yy ck : Bool) : Prop where
  z : t.size = 393
  t1 : ∀ h : 1 < t.size, t[1]'h = v
  t2 : ∀ h : 2 < t.size, t[2]'h = .string (bs l)
  t7 : ∀ h : 7 < t.size, t[7]'h = .string nm
  t8 : ∀ h : 8 < t.size, t[8]'h = .int .i64 off
  t9 : ∀ h : 9 < t.size, t[9]'h = .int .u64 A
  t10 : ∀ h : 10 < t.size, t[10]'h = .int .u64 (A / 86400)
  t11 : ∀ h : 11 < t.size, t[11]'h = .int .i64 (if dy then yearF (A / 86400) else -1)
  t12 : dy = true → ∀ h : 12 < t.size, t[12]'h = .int .i64 (monthF (A / 86400))
  t13 : dy = true → ∀ h : 13 < t.size, t[13]'h = .int .i64 (dayF (A / 86400))
  t14 : ∀ h : 14 < t.size, t[14]'h = .int .i64 (if yy then ydayF (A / 86400) else -1)
  t15 : ∀ h : 15 < t.size, t[15]'h = .int .i64 (if ck then A % 86400 / 3600 else -1)
  t16 : ck = true → ∀ h : 16 < t.size, t[16]'h = .int .i64 (A % 3600 / 60)
  t17 : ck = true → ∀ h : 17 < t.size, t[17]'h = .int .i64 (A % 60)

set_option maxRecDepth 1000000 in
set_option maxHeartbeats 4000000 in
theorem piece_date (t : Array Value) (v : Value) (l : List UInt8) (nm : ByteArray) (off A : Int) (dy yy ck : Bool) (std : Int) (b : Bool) (cs : List Code) (w : World) (Q : Exit → Act → World → Prop)
    (hA : InDays (A / 86400)) (hy : 0 ≤ yearF (A / 86400)) (hb : (bits .and .i64 std 256 != 0) = b) (ht : FmtT t v l nm off A dy yy ck) (hs : ∀ h : 19 < t.size, t[19]'h = .int .i64 std)
    (hK : ∀ t' : Array Value, FmtT t' v l nm off A (dy || b) yy ck → (∀ h : 19 < t'.size, t'[19]'h = .int .i64 std) → wpL Tryz.prog cs Q ⟨t', []⟩ w) :
    wpL Tryz.prog (fp 6 :: fp 7 :: cs) Q ⟨t, []⟩ w := by
  obtain ⟨z, t1, t2, t7, t8, t9, t10, t11, t12, t13, t14, t15, t16, t17⟩ := ht
  cases dy <;> cases b
  all_goals
    simp only [if_true, if_false, Bool.false_eq_true, forall_const, false_implies] at t11 t12 t13
    refine wpL_cons ?_
    conv => arg 2; whnf
    repeat (first | ((with_reducible refine wp_cond_true ?_ ?_); (focus (go_simp; done))) | ((with_reducible refine wp_cond_false ?_ ?_); (focus (go_simp; done))) | go_guarded | go_step)
    refine wpL_cons ?_
    conv => arg 2; whnf
    repeat (first | ((with_reducible refine wp_cond_true ?_ ?_); (focus (go_simp; done))) | ((with_reducible refine wp_cond_false ?_ ?_); (focus (go_simp; done))) | (go_at_call 109; refine (date_any _ _ hA).mono ?_; rintro e w' ⟨rfl, rfl⟩; dsimp only) | go_guarded | go_step)
    refine hK _ ⟨?_, ?_, ?_, ?_, ?_, ?_, ?_, ?_, ?_, ?_, ?_, ?_, ?_, ?_⟩ ?_
    all_goals first | (simp [z]; done) | (intro h; simp [z, t1, t2, t7, t8, t9, t10, t11, t14, t15, hs]; done) | (intro h; simp [z]; done) | (intro hc h; simp [z, t12, t13, t16, t17, hc]; done) | (intro hc h; simp [z, t16 hc, t17 hc]; done) | (intro hc; cases hc)

set_option maxRecDepth 1000000 in
set_option maxHeartbeats 4000000 in
theorem piece_yday (t : Array Value) (v : Value) (l : List UInt8) (nm : ByteArray) (off A : Int) (dy yy ck : Bool) (std : Int) (b : Bool) (cs : List Code) (w : World) (Q : Exit → Act → World → Prop)
    (hA : InDays (A / 86400)) (hb : (bits .and .i64 std 512 != 0) = b) (ht : FmtT t v l nm off A dy yy ck) (hs : ∀ h : 19 < t.size, t[19]'h = .int .i64 std)
    (hK : ∀ t' : Array Value, FmtT t' v l nm off A dy (yy || b) ck → (∀ h : 19 < t'.size, t'[19]'h = .int .i64 std) → wpL Tryz.prog cs Q ⟨t', []⟩ w) :
    wpL Tryz.prog (fp 8 :: fp 9 :: cs) Q ⟨t, []⟩ w := by
  obtain ⟨z, t1, t2, t7, t8, t9, t10, t11, t12, t13, t14, t15, t16, t17⟩ := ht
  have hy := ydayF_bd (A / 86400)
  cases yy <;> cases b
  all_goals
    simp only [if_true, if_false, Bool.false_eq_true, forall_const, false_implies] at t11 t12 t13 t14 t15 t16 t17
    refine wpL_cons ?_
    conv => arg 2; whnf
    repeat (first | ((with_reducible refine wp_cond_true ?_ ?_); (focus (go_simp; done))) | ((with_reducible refine wp_cond_false ?_ ?_); (focus (go_simp; done))) | go_guarded | go_step)
    refine wpL_cons ?_
    conv => arg 2; whnf
    repeat (first | ((with_reducible refine wp_cond_true ?_ ?_); (focus (go_simp; done))) | ((with_reducible refine wp_cond_false ?_ ?_); (focus (go_simp; done))) | (go_at_call 97; refine (yearYday_any _ _ hA).mono ?_; rintro e w' ⟨rfl, rfl⟩; dsimp only) | go_guarded | go_step)
    refine hK _ ⟨?_, ?_, ?_, ?_, ?_, ?_, ?_, ?_, ?_, ?_, ?_, ?_, ?_, ?_⟩ ?_
    all_goals first | (simp [z]; done) | (intro h; simp [z, t1, t2, t7, t8, t9, t10, t11, t14, t15, hs]; done) | (intro h; simp [z]; done) | (intro hc h; simp [z, t12, t13, t16, t17, hc]; done) | (intro hc h; simp [z, t16 hc, t17 hc]; done) | (intro hc; cases hc)

set_option maxRecDepth 1000000 in
set_option maxHeartbeats 4000000 in
theorem piece_clock (t : Array Value) (v : Value) (l : List UInt8) (nm : ByteArray) (off A : Int) (dy yy ck : Bool) (std : Int) (b : Bool) (cs : List Code) (w : World) (Q : Exit → Act → World → Prop)
    (h0 : 0 ≤ A) (h1 : A < 18446744073709551616) (hb : (bits .and .i64 std 1024 != 0) = b) (ht : FmtT t v l nm off A dy yy ck) (hs : ∀ h : 19 < t.size, t[19]'h = .int .i64 std)
    (hK : ∀ t' : Array Value, FmtT t' v l nm off A dy yy (ck || b) → (∀ h : 19 < t'.size, t'[19]'h = .int .i64 std) → wpL Tryz.prog cs Q ⟨t', []⟩ w) :
    wpL Tryz.prog (fp 10 :: fp 11 :: cs) Q ⟨t, []⟩ w := by
  obtain ⟨z, t1, t2, t7, t8, t9, t10, t11, t12, t13, t14, t15, t16, t17⟩ := ht
  have hy : 0 ≤ A % 86400 / 3600 := by omega
  cases ck <;> cases b
  all_goals
    simp only [if_true, if_false, Bool.false_eq_true, forall_const, false_implies] at t11 t12 t13 t14 t15 t16 t17
    refine wpL_cons ?_
    conv => arg 2; whnf
    repeat (first | ((with_reducible refine wp_cond_true ?_ ?_); (focus (go_simp; done))) | ((with_reducible refine wp_cond_false ?_ ?_); (focus (go_simp; done))) | go_guarded | go_step)
    refine wpL_cons ?_
    conv => arg 2; whnf
    repeat (first | ((with_reducible refine wp_cond_true ?_ ?_); (focus (go_simp; done))) | ((with_reducible refine wp_cond_false ?_ ?_); (focus (go_simp; done))) | (go_at_call 111; refine (clock_any _ _ h0 h1).mono ?_; rintro e w' ⟨rfl, rfl⟩; dsimp only) | go_guarded | go_step)
    refine hK _ ⟨?_, ?_, ?_, ?_, ?_, ?_, ?_, ?_, ?_, ?_, ?_, ?_, ?_, ?_⟩ ?_
    all_goals first | (simp [z]; done) | (intro h; simp [z, t1, t2, t7, t8, t9, t10, t11, t14, t15, hs]; done) | (intro h; simp [z]; done) | (intro hc h; simp [z, t12, t13, t16, t17, hc]; done) | (intro hc h; simp [z, t16 hc, t17 hc]; done) | (intro hc; cases hc)
end Go.Proofs.YtkcgngpoegglnaaGreatDoor
end
