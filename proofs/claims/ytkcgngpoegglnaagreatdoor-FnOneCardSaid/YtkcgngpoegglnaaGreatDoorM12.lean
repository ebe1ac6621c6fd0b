/- Contracts of the printing of a number with zeros ahead: the general road. -/
import Derived.Test.YtkcgngpoegglnaaGreatDoorM09
namespace Go.Proofs.YtkcgngpoegglnaaGreatDoor
open Go Go.RowKit
set_option linter.unusedVariables false

set_option maxRecDepth 100000 in
set_option maxHeartbeats 1000000 in
theorem appendInt_0_1 (v : Value) (x : Int) (g : Nat) (bs : List UInt8) (w : World) (h : Buf w g v bs) (h0 : 1 ≤ x) (h1 : x ≤ 9) (hl : bs.length ≤ 700000) :
    Calls Tryz.prog 110 #[v, .int .i64 x, .int .i64 0] w (AppPost w g (bs ++ [dg (x)])) := by
  obtain ⟨cap, rfl, hc1, hc2⟩ := h.slice
  unfold maxLen at hc2
  go_enter Tryz.func110, Tryz.ntmps110
  go_wp2_with (first | (go_at_call 123; refine (utod_any _ _ (by omega) (by omega)).mono ?_; rintro e w' ⟨rfl, rfl⟩))
  refine wp_loop_rounds 2 ?_
  rw [rounds_succ]
  go_wp2
  rw [rounds_succ]
  go_wp2
  refine wp_loop_rounds 1 ?_
  rw [rounds_succ]
  go_wp2_with (first | (at_builtin; refine wpList_append_zeros rfl _ _ rfl 1 rfl rfl h (by omega) (by omega) (by omega) ?_; intro cap' wz happz))
  · obtain ⟨more, hm, hB⟩ := h.extend 1 (by omega)
    have A := Appended.refl hB
    have hlen : bs.length + 1 = (bs ++ more).length := by have := hB.len; simpa using this
    obtain ⟨u0, c0⟩ : ∃ u, _ = some u := ⟨_, hB.cellAt (bs.length) (by omega)⟩
    have f0 := hB.free (bs.length)
    have A' := Lib.hid A
    have hlen' := Lib.hid hlen
    clear A hlen
    refine wp_loop_rounds 1 ?_
    rw [rounds_succ]
    go_wp2_with (first | (go_at_call 123; refine (utod_any _ _ (by omega) (by omega)).mono ?_; rintro e w' ⟨rfl, rfl⟩))
    go_ret
    have e0 : Value.int .u8 (48 + (x)) = bv (dg (x)) := by rw [show x = x by omega]; exact bv_dg _ (by omega) (by omega)
    have r := (Appended.setAt A'.out (bs.length) (dg (x)) (by have := hlen'.out; simp at this ⊢; omega))
    have eqs : ((bs ++ more).set bs.length (dg (x))) = bs ++ [dg (x)] := by
      exact set_one _ hm
    rw [eqs] at r
    rw [e0]
    exact ⟨_, _, rfl, r⟩
  · have hm : (List.replicate 1 (0 : UInt8)).length = 1 := by simp
    have hB := happz.buf
    have A := happz
    clear happz
    generalize List.replicate 1 (0 : UInt8) = more at *
    have hlen : bs.length + 1 = (bs ++ more).length := by have := hB.len; simpa using this
    obtain ⟨u0, c0⟩ : ∃ u, _ = some u := ⟨_, hB.cellAt (bs.length) (by omega)⟩
    have f0 := hB.free (bs.length)
    have A' := Lib.hid A
    have hlen' := Lib.hid hlen
    clear A hlen
    refine wp_loop_rounds 1 ?_
    rw [rounds_succ]
    go_wp2_with (first | (go_at_call 123; refine (utod_any _ _ (by omega) (by omega)).mono ?_; rintro e w' ⟨rfl, rfl⟩))
    go_ret
    have e0 : Value.int .u8 (48 + (x)) = bv (dg (x)) := by rw [show x = x by omega]; exact bv_dg _ (by omega) (by omega)
    have r := (Appended.setAt A'.out (bs.length) (dg (x)) (by have := hlen'.out; simp at this ⊢; omega))
    have eqs : ((bs ++ more).set bs.length (dg (x))) = bs ++ [dg (x)] := by
      exact set_one _ hm
    rw [eqs] at r
    rw [e0]
    exact ⟨_, _, rfl, r⟩

set_option maxRecDepth 100000 in
set_option maxHeartbeats 1000000 in
theorem appendInt_0_2 (v : Value) (x : Int) (g : Nat) (bs : List UInt8) (w : World) (h : Buf w g v bs) (h0 : 10 ≤ x) (h1 : x ≤ 99) (hl : bs.length ≤ 700000) :
    Calls Tryz.prog 110 #[v, .int .i64 x, .int .i64 0] w (AppPost w g (bs ++ [dg (x / 10), dg (x % 10)])) := by
  obtain ⟨cap, rfl, hc1, hc2⟩ := h.slice
  unfold maxLen at hc2
  go_enter Tryz.func110, Tryz.ntmps110
  go_wp2_with (first | (go_at_call 123; refine (utod_any _ _ (by omega) (by omega)).mono ?_; rintro e w' ⟨rfl, rfl⟩))
  refine wp_loop_rounds 3 ?_
  rw [rounds_succ]
  go_wp2
  rw [rounds_succ]
  go_wp2
  rw [rounds_succ]
  go_wp2
  refine wp_loop_rounds 1 ?_
  rw [rounds_succ]
  go_wp2_with (first | (at_builtin; refine wpList_append_zeros rfl _ _ rfl 2 rfl rfl h (by omega) (by omega) (by omega) ?_; intro cap' wz happz))
  · obtain ⟨more, hm, hB⟩ := h.extend 2 (by omega)
    have A := Appended.refl hB
    have hlen : bs.length + 2 = (bs ++ more).length := by have := hB.len; simpa using this
    obtain ⟨u0, c0⟩ : ∃ u, _ = some u := ⟨_, hB.cellAt (bs.length) (by omega)⟩
    have f0 := hB.free (bs.length)
    obtain ⟨u1, c1⟩ : ∃ u, _ = some u := ⟨_, hB.cellAt (bs.length + 1) (by omega)⟩
    have f1 := hB.free (bs.length + 1)
    have A' := Lib.hid A
    have hlen' := Lib.hid hlen
    clear A hlen
    refine wp_loop_rounds 2 ?_
    rw [rounds_succ]
    go_wp2_with (first | (go_at_call 123; refine (utod_any _ _ (by omega) (by omega)).mono ?_; rintro e w' ⟨rfl, rfl⟩))
    rw [rounds_succ]
    go_wp2_with (first | (go_at_call 123; refine (utod_any _ _ (by omega) (by omega)).mono ?_; rintro e w' ⟨rfl, rfl⟩))
    go_ret
    have e0 : Value.int .u8 (48 + (x - x / 10 * 10)) = bv (dg (x % 10)) := by rw [show x - x / 10 * 10 = x % 10 by omega]; exact bv_dg _ (by omega) (by omega)
    have e1 : Value.int .u8 (48 + (x / 10)) = bv (dg (x / 10)) := by rw [show x / 10 = x / 10 by omega]; exact bv_dg _ (by omega) (by omega)
    have r := (Appended.setAt (Appended.setAt A'.out (bs.length + 1) (dg (x % 10)) (by have := hlen'.out; simp at this ⊢; omega)) (bs.length) (dg (x / 10)) (by have := hlen'.out; simp at this ⊢; omega))
    have eqs : (((bs ++ more).set (bs.length + 1) (dg (x % 10))).set bs.length (dg (x / 10))) = bs ++ [dg (x / 10), dg (x % 10)] := by
      exact set_two _ _ hm
    rw [eqs] at r
    rw [e0, e1]
    exact ⟨_, _, rfl, r⟩
  · have hm : (List.replicate 2 (0 : UInt8)).length = 2 := by simp
    have hB := happz.buf
    have A := happz
    clear happz
    generalize List.replicate 2 (0 : UInt8) = more at *
    have hlen : bs.length + 2 = (bs ++ more).length := by have := hB.len; simpa using this
    obtain ⟨u0, c0⟩ : ∃ u, _ = some u := ⟨_, hB.cellAt (bs.length) (by omega)⟩
    have f0 := hB.free (bs.length)
    obtain ⟨u1, c1⟩ : ∃ u, _ = some u := ⟨_, hB.cellAt (bs.length + 1) (by omega)⟩
    have f1 := hB.free (bs.length + 1)
    have A' := Lib.hid A
    have hlen' := Lib.hid hlen
    clear A hlen
    refine wp_loop_rounds 2 ?_
    rw [rounds_succ]
    go_wp2_with (first | (go_at_call 123; refine (utod_any _ _ (by omega) (by omega)).mono ?_; rintro e w' ⟨rfl, rfl⟩))
    rw [rounds_succ]
    go_wp2_with (first | (go_at_call 123; refine (utod_any _ _ (by omega) (by omega)).mono ?_; rintro e w' ⟨rfl, rfl⟩))
    go_ret
    have e0 : Value.int .u8 (48 + (x - x / 10 * 10)) = bv (dg (x % 10)) := by rw [show x - x / 10 * 10 = x % 10 by omega]; exact bv_dg _ (by omega) (by omega)
    have e1 : Value.int .u8 (48 + (x / 10)) = bv (dg (x / 10)) := by rw [show x / 10 = x / 10 by omega]; exact bv_dg _ (by omega) (by omega)
    have r := (Appended.setAt (Appended.setAt A'.out (bs.length + 1) (dg (x % 10)) (by have := hlen'.out; simp at this ⊢; omega)) (bs.length) (dg (x / 10)) (by have := hlen'.out; simp at this ⊢; omega))
    have eqs : (((bs ++ more).set (bs.length + 1) (dg (x % 10))).set bs.length (dg (x / 10))) = bs ++ [dg (x / 10), dg (x % 10)] := by
      exact set_two _ _ hm
    rw [eqs] at r
    rw [e0, e1]
    exact ⟨_, _, rfl, r⟩

set_option maxRecDepth 100000 in
set_option maxHeartbeats 1000000 in
theorem appendInt_3_1 (v : Value) (x : Int) (g : Nat) (bs : List UInt8) (w : World) (h : Buf w g v bs) (h0 : 1 ≤ x) (h1 : x ≤ 9) (hl : bs.length ≤ 700000) :
    Calls Tryz.prog 110 #[v, .int .i64 x, .int .i64 3] w (AppPost w g (bs ++ [48, 48, dg (x)])) := by
  obtain ⟨cap, rfl, hc1, hc2⟩ := h.slice
  unfold maxLen at hc2
  go_enter Tryz.func110, Tryz.ntmps110
  go_wp2_with (first | (go_at_call 123; refine (utod_any _ _ (by omega) (by omega)).mono ?_; rintro e w' ⟨rfl, rfl⟩))
  refine wp_loop_rounds 2 ?_
  rw [rounds_succ]
  go_wp2
  rw [rounds_succ]
  go_wp2
  refine wp_loop_rounds 3 ?_
  rw [rounds_succ]
  go_wp2_with (first | (at_builtin; refine wpList_append_buf_s rfl _ _ 34 rfl 1 rfl rfl (h.alloc _) (bytesIn_new1 _ 48 _ rfl) rfl (by omega) ?_; intro g0 cap0 w0 happ0 hcl0 hcu0))
  have hb0 := happ0.buf
  have ch0 := Lib.hid (happ0.pre ((Below.refl _ _).alloc (Nat.le_refl _) _))
  clear happ0
  generalize hL0 : bs.length + 1 = L0 at *
  rw [rounds_succ]
  go_wp2_with (first | (at_builtin; refine wpList_append_buf_s rfl _ _ 34 rfl 1 rfl rfl (hb0.alloc _) (bytesIn_new1 _ 48 _ rfl) rfl (by omega) ?_; intro g1 cap1 w1 happ1 hcl1 hcu1))
  have hb1 := happ1.buf
  have ch1 := Lib.hid (ch0.out.trans (happ1.pre ((Below.refl _ _).alloc (Nat.le_refl _) _)))
  clear happ1
  generalize hL1 : L0 + 1 = L1 at *
  rw [rounds_succ]
  go_wp2_with (first | (at_builtin; refine wpList_append_zeros rfl _ _ rfl 1 rfl rfl hb1 (by omega) (by omega) (by omega) ?_; intro cap' wz happz))
  · obtain ⟨more, hm, hB⟩ := hb1.extend 1 (by omega)
    have A := Appended.refl hB
    have hlen : L1 + 1 = (((bs ++ [48]) ++ [48]) ++ more).length := by have := hB.len; simpa using this
    obtain ⟨u0, c0⟩ : ∃ u, _ = some u := ⟨_, hB.cellAt (L1) (by omega)⟩
    have f0 := hB.free (L1)
    have hlb := hb1.len
    have A' := Lib.hid A
    have hlen' := Lib.hid hlen
    clear A hlen
    have hlb' := Lib.hid hlb
    clear hlb
    clear hL0
    clear hL1
    refine wp_loop_rounds 1 ?_
    rw [rounds_succ]
    go_wp2_with (first | (go_at_call 123; refine (utod_any _ _ (by omega) (by omega)).mono ?_; rintro e w' ⟨rfl, rfl⟩))
    go_ret
    have e0 : Value.int .u8 (48 + (x)) = bv (dg (x)) := by rw [show x = x by omega]; exact bv_dg _ (by omega) (by omega)
    have r := (Appended.setAt A'.out (L1) (dg (x)) (by have := hlen'.out; simp at this ⊢; omega))
    have eqs : ((((bs ++ [48]) ++ [48]) ++ more).set L1 (dg (x))) = ((bs ++ [48]) ++ [48]) ++ [dg (x)] := by
      have hl0 := hlb'.out
      rw [hl0]
      exact set_one _ hm
    rw [eqs] at r
    rw [e0]
    have r2 := ch1.out.trans r
    simp only [List.append_assoc, List.cons_append, List.nil_append] at r2
    exact ⟨_, _, rfl, r2⟩
  · have hm : (List.replicate 1 (0 : UInt8)).length = 1 := by simp
    have hB := happz.buf
    have A := happz
    clear happz
    generalize List.replicate 1 (0 : UInt8) = more at *
    have hlen : L1 + 1 = (((bs ++ [48]) ++ [48]) ++ more).length := by have := hB.len; simpa using this
    obtain ⟨u0, c0⟩ : ∃ u, _ = some u := ⟨_, hB.cellAt (L1) (by omega)⟩
    have f0 := hB.free (L1)
    have hlb := hb1.len
    have A' := Lib.hid A
    have hlen' := Lib.hid hlen
    clear A hlen
    have hlb' := Lib.hid hlb
    clear hlb
    clear hL0
    clear hL1
    refine wp_loop_rounds 1 ?_
    rw [rounds_succ]
    go_wp2_with (first | (go_at_call 123; refine (utod_any _ _ (by omega) (by omega)).mono ?_; rintro e w' ⟨rfl, rfl⟩))
    go_ret
    have e0 : Value.int .u8 (48 + (x)) = bv (dg (x)) := by rw [show x = x by omega]; exact bv_dg _ (by omega) (by omega)
    have r := (Appended.setAt A'.out (L1) (dg (x)) (by have := hlen'.out; simp at this ⊢; omega))
    have eqs : ((((bs ++ [48]) ++ [48]) ++ more).set L1 (dg (x))) = ((bs ++ [48]) ++ [48]) ++ [dg (x)] := by
      have hl0 := hlb'.out
      rw [hl0]
      exact set_one _ hm
    rw [eqs] at r
    rw [e0]
    have r2 := ch1.out.trans r
    simp only [List.append_assoc, List.cons_append, List.nil_append] at r2
    exact ⟨_, _, rfl, r2⟩

set_option maxRecDepth 100000 in
set_option maxHeartbeats 1000000 in
theorem appendInt_3_2 (v : Value) (x : Int) (g : Nat) (bs : List UInt8) (w : World) (h : Buf w g v bs) (h0 : 10 ≤ x) (h1 : x ≤ 99) (hl : bs.length ≤ 700000) :
    Calls Tryz.prog 110 #[v, .int .i64 x, .int .i64 3] w (AppPost w g (bs ++ [48, dg (x / 10), dg (x % 10)])) := by
  obtain ⟨cap, rfl, hc1, hc2⟩ := h.slice
  unfold maxLen at hc2
  go_enter Tryz.func110, Tryz.ntmps110
  go_wp2_with (first | (go_at_call 123; refine (utod_any _ _ (by omega) (by omega)).mono ?_; rintro e w' ⟨rfl, rfl⟩))
  refine wp_loop_rounds 3 ?_
  rw [rounds_succ]
  go_wp2
  rw [rounds_succ]
  go_wp2
  rw [rounds_succ]
  go_wp2
  refine wp_loop_rounds 2 ?_
  rw [rounds_succ]
  go_wp2_with (first | (at_builtin; refine wpList_append_buf_s rfl _ _ 34 rfl 1 rfl rfl (h.alloc _) (bytesIn_new1 _ 48 _ rfl) rfl (by omega) ?_; intro g0 cap0 w0 happ0 hcl0 hcu0))
  have hb0 := happ0.buf
  have ch0 := Lib.hid (happ0.pre ((Below.refl _ _).alloc (Nat.le_refl _) _))
  clear happ0
  generalize hL0 : bs.length + 1 = L0 at *
  rw [rounds_succ]
  go_wp2_with (first | (at_builtin; refine wpList_append_zeros rfl _ _ rfl 2 rfl rfl hb0 (by omega) (by omega) (by omega) ?_; intro cap' wz happz))
  · obtain ⟨more, hm, hB⟩ := hb0.extend 2 (by omega)
    have A := Appended.refl hB
    have hlen : L0 + 2 = ((bs ++ [48]) ++ more).length := by have := hB.len; simpa using this
    obtain ⟨u0, c0⟩ : ∃ u, _ = some u := ⟨_, hB.cellAt (L0) (by omega)⟩
    have f0 := hB.free (L0)
    obtain ⟨u1, c1⟩ : ∃ u, _ = some u := ⟨_, hB.cellAt (L0 + 1) (by omega)⟩
    have f1 := hB.free (L0 + 1)
    have hlb := hb0.len
    have A' := Lib.hid A
    have hlen' := Lib.hid hlen
    clear A hlen
    have hlb' := Lib.hid hlb
    clear hlb
    clear hL0
    refine wp_loop_rounds 2 ?_
    rw [rounds_succ]
    go_wp2_with (first | (go_at_call 123; refine (utod_any _ _ (by omega) (by omega)).mono ?_; rintro e w' ⟨rfl, rfl⟩))
    rw [rounds_succ]
    go_wp2_with (first | (go_at_call 123; refine (utod_any _ _ (by omega) (by omega)).mono ?_; rintro e w' ⟨rfl, rfl⟩))
    go_ret
    have e0 : Value.int .u8 (48 + (x - x / 10 * 10)) = bv (dg (x % 10)) := by rw [show x - x / 10 * 10 = x % 10 by omega]; exact bv_dg _ (by omega) (by omega)
    have e1 : Value.int .u8 (48 + (x / 10)) = bv (dg (x / 10)) := by rw [show x / 10 = x / 10 by omega]; exact bv_dg _ (by omega) (by omega)
    have r := (Appended.setAt (Appended.setAt A'.out (L0 + 1) (dg (x % 10)) (by have := hlen'.out; simp at this ⊢; omega)) (L0) (dg (x / 10)) (by have := hlen'.out; simp at this ⊢; omega))
    have eqs : ((((bs ++ [48]) ++ more).set (L0 + 1) (dg (x % 10))).set L0 (dg (x / 10))) = (bs ++ [48]) ++ [dg (x / 10), dg (x % 10)] := by
      have hl0 := hlb'.out
      rw [hl0]
      exact set_two _ _ hm
    rw [eqs] at r
    rw [e0, e1]
    have r2 := ch0.out.trans r
    simp only [List.append_assoc, List.cons_append, List.nil_append] at r2
    exact ⟨_, _, rfl, r2⟩
  · have hm : (List.replicate 2 (0 : UInt8)).length = 2 := by simp
    have hB := happz.buf
    have A := happz
    clear happz
    generalize List.replicate 2 (0 : UInt8) = more at *
    have hlen : L0 + 2 = ((bs ++ [48]) ++ more).length := by have := hB.len; simpa using this
    obtain ⟨u0, c0⟩ : ∃ u, _ = some u := ⟨_, hB.cellAt (L0) (by omega)⟩
    have f0 := hB.free (L0)
    obtain ⟨u1, c1⟩ : ∃ u, _ = some u := ⟨_, hB.cellAt (L0 + 1) (by omega)⟩
    have f1 := hB.free (L0 + 1)
    have hlb := hb0.len
    have A' := Lib.hid A
    have hlen' := Lib.hid hlen
    clear A hlen
    have hlb' := Lib.hid hlb
    clear hlb
    clear hL0
    refine wp_loop_rounds 2 ?_
    rw [rounds_succ]
    go_wp2_with (first | (go_at_call 123; refine (utod_any _ _ (by omega) (by omega)).mono ?_; rintro e w' ⟨rfl, rfl⟩))
    rw [rounds_succ]
    go_wp2_with (first | (go_at_call 123; refine (utod_any _ _ (by omega) (by omega)).mono ?_; rintro e w' ⟨rfl, rfl⟩))
    go_ret
    have e0 : Value.int .u8 (48 + (x - x / 10 * 10)) = bv (dg (x % 10)) := by rw [show x - x / 10 * 10 = x % 10 by omega]; exact bv_dg _ (by omega) (by omega)
    have e1 : Value.int .u8 (48 + (x / 10)) = bv (dg (x / 10)) := by rw [show x / 10 = x / 10 by omega]; exact bv_dg _ (by omega) (by omega)
    have r := (Appended.setAt (Appended.setAt A'.out (L0 + 1) (dg (x % 10)) (by have := hlen'.out; simp at this ⊢; omega)) (L0) (dg (x / 10)) (by have := hlen'.out; simp at this ⊢; omega))
    have eqs : ((((bs ++ [48]) ++ more).set (L0 + 1) (dg (x % 10))).set L0 (dg (x / 10))) = (bs ++ [48]) ++ [dg (x / 10), dg (x % 10)] := by
      have hl0 := hlb'.out
      rw [hl0]
      exact set_two _ _ hm
    rw [eqs] at r
    rw [e0, e1]
    have r2 := ch0.out.trans r
    simp only [List.append_assoc, List.cons_append, List.nil_append] at r2
    exact ⟨_, _, rfl, r2⟩

set_option maxRecDepth 100000 in
set_option maxHeartbeats 1000000 in
theorem appendInt_3_3 (v : Value) (x : Int) (g : Nat) (bs : List UInt8) (w : World) (h : Buf w g v bs) (h0 : 100 ≤ x) (h1 : x ≤ 999) (hl : bs.length ≤ 700000) :
    Calls Tryz.prog 110 #[v, .int .i64 x, .int .i64 3] w (AppPost w g (bs ++ [dg (x / 100), dg (x / 10 % 10), dg (x % 10)])) := by
  obtain ⟨cap, rfl, hc1, hc2⟩ := h.slice
  unfold maxLen at hc2
  go_enter Tryz.func110, Tryz.ntmps110
  go_wp2_with (first | (go_at_call 123; refine (utod_any _ _ (by omega) (by omega)).mono ?_; rintro e w' ⟨rfl, rfl⟩))
  refine wp_loop_rounds 4 ?_
  rw [rounds_succ]
  go_wp2
  rw [rounds_succ]
  go_wp2
  rw [rounds_succ]
  go_wp2
  rw [rounds_succ]
  go_wp2
  refine wp_loop_rounds 1 ?_
  rw [rounds_succ]
  go_wp2_with (first | (at_builtin; refine wpList_append_zeros rfl _ _ rfl 3 rfl rfl h (by omega) (by omega) (by omega) ?_; intro cap' wz happz))
  · obtain ⟨more, hm, hB⟩ := h.extend 3 (by omega)
    have A := Appended.refl hB
    have hlen : bs.length + 3 = (bs ++ more).length := by have := hB.len; simpa using this
    obtain ⟨u0, c0⟩ : ∃ u, _ = some u := ⟨_, hB.cellAt (bs.length) (by omega)⟩
    have f0 := hB.free (bs.length)
    obtain ⟨u1, c1⟩ : ∃ u, _ = some u := ⟨_, hB.cellAt (bs.length + 1) (by omega)⟩
    have f1 := hB.free (bs.length + 1)
    obtain ⟨u2, c2⟩ : ∃ u, _ = some u := ⟨_, hB.cellAt (bs.length + 2) (by omega)⟩
    have f2 := hB.free (bs.length + 2)
    have A' := Lib.hid A
    have hlen' := Lib.hid hlen
    clear A hlen
    refine wp_loop_rounds 3 ?_
    rw [rounds_succ]
    go_wp2_with (first | (go_at_call 123; refine (utod_any _ _ (by omega) (by omega)).mono ?_; rintro e w' ⟨rfl, rfl⟩))
    rw [rounds_succ]
    go_wp2_with (first | (go_at_call 123; refine (utod_any _ _ (by omega) (by omega)).mono ?_; rintro e w' ⟨rfl, rfl⟩))
    rw [rounds_succ]
    go_wp2_with (first | (go_at_call 123; refine (utod_any _ _ (by omega) (by omega)).mono ?_; rintro e w' ⟨rfl, rfl⟩))
    go_ret
    have e0 : Value.int .u8 (48 + (x - x / 10 * 10)) = bv (dg (x % 10)) := by rw [show x - x / 10 * 10 = x % 10 by omega]; exact bv_dg _ (by omega) (by omega)
    have e1 : Value.int .u8 (48 + (x / 10 - x / 10 / 10 * 10)) = bv (dg (x / 10 % 10)) := by rw [show x / 10 - x / 10 / 10 * 10 = x / 10 % 10 by omega]; exact bv_dg _ (by omega) (by omega)
    have e2 : Value.int .u8 (48 + (x / 10 / 10)) = bv (dg (x / 100)) := by rw [show x / 10 / 10 = x / 100 by omega]; exact bv_dg _ (by omega) (by omega)
    have r := (Appended.setAt (Appended.setAt (Appended.setAt A'.out (bs.length + 2) (dg (x % 10)) (by have := hlen'.out; simp at this ⊢; omega)) (bs.length + 1) (dg (x / 10 % 10)) (by have := hlen'.out; simp at this ⊢; omega)) (bs.length) (dg (x / 100)) (by have := hlen'.out; simp at this ⊢; omega))
    have eqs : ((((bs ++ more).set (bs.length + 2) (dg (x % 10))).set (bs.length + 1) (dg (x / 10 % 10))).set bs.length (dg (x / 100))) = bs ++ [dg (x / 100), dg (x / 10 % 10), dg (x % 10)] := by
      exact set_three _ _ _ hm
    rw [eqs] at r
    rw [e0, e1, e2]
    exact ⟨_, _, rfl, r⟩
  · have hm : (List.replicate 3 (0 : UInt8)).length = 3 := by simp
    have hB := happz.buf
    have A := happz
    clear happz
    generalize List.replicate 3 (0 : UInt8) = more at *
    have hlen : bs.length + 3 = (bs ++ more).length := by have := hB.len; simpa using this
    obtain ⟨u0, c0⟩ : ∃ u, _ = some u := ⟨_, hB.cellAt (bs.length) (by omega)⟩
    have f0 := hB.free (bs.length)
    obtain ⟨u1, c1⟩ : ∃ u, _ = some u := ⟨_, hB.cellAt (bs.length + 1) (by omega)⟩
    have f1 := hB.free (bs.length + 1)
    obtain ⟨u2, c2⟩ : ∃ u, _ = some u := ⟨_, hB.cellAt (bs.length + 2) (by omega)⟩
    have f2 := hB.free (bs.length + 2)
    have A' := Lib.hid A
    have hlen' := Lib.hid hlen
    clear A hlen
    refine wp_loop_rounds 3 ?_
    rw [rounds_succ]
    go_wp2_with (first | (go_at_call 123; refine (utod_any _ _ (by omega) (by omega)).mono ?_; rintro e w' ⟨rfl, rfl⟩))
    rw [rounds_succ]
    go_wp2_with (first | (go_at_call 123; refine (utod_any _ _ (by omega) (by omega)).mono ?_; rintro e w' ⟨rfl, rfl⟩))
    rw [rounds_succ]
    go_wp2_with (first | (go_at_call 123; refine (utod_any _ _ (by omega) (by omega)).mono ?_; rintro e w' ⟨rfl, rfl⟩))
    go_ret
    have e0 : Value.int .u8 (48 + (x - x / 10 * 10)) = bv (dg (x % 10)) := by rw [show x - x / 10 * 10 = x % 10 by omega]; exact bv_dg _ (by omega) (by omega)
    have e1 : Value.int .u8 (48 + (x / 10 - x / 10 / 10 * 10)) = bv (dg (x / 10 % 10)) := by rw [show x / 10 - x / 10 / 10 * 10 = x / 10 % 10 by omega]; exact bv_dg _ (by omega) (by omega)
    have e2 : Value.int .u8 (48 + (x / 10 / 10)) = bv (dg (x / 100)) := by rw [show x / 10 / 10 = x / 100 by omega]; exact bv_dg _ (by omega) (by omega)
    have r := (Appended.setAt (Appended.setAt (Appended.setAt A'.out (bs.length + 2) (dg (x % 10)) (by have := hlen'.out; simp at this ⊢; omega)) (bs.length + 1) (dg (x / 10 % 10)) (by have := hlen'.out; simp at this ⊢; omega)) (bs.length) (dg (x / 100)) (by have := hlen'.out; simp at this ⊢; omega))
    have eqs : ((((bs ++ more).set (bs.length + 2) (dg (x % 10))).set (bs.length + 1) (dg (x / 10 % 10))).set bs.length (dg (x / 100))) = bs ++ [dg (x / 100), dg (x / 10 % 10), dg (x % 10)] := by
      exact set_three _ _ _ hm
    rw [eqs] at r
    rw [e0, e1, e2]
    exact ⟨_, _, rfl, r⟩

theorem appendInt_three (v : Value) (x : Int) (g : Nat) (bs : List UInt8) (w : World) (h : Buf w g v bs) (h0 : 1 ≤ x) (h1 : x ≤ 366) (hl : bs.length ≤ 700000) :
    Calls Tryz.prog 110 #[v, .int .i64 x, .int .i64 3] w (AppPost w g (bs ++ [dg (x / 100), dg (x / 10 % 10), dg (x % 10)])) := by
  by_cases a : x ≤ 9
  · have e1 : dg (x / 100) = 48 := by rw [show x / 100 = 0 by omega]; rfl
    have e2 : dg (x / 10 % 10) = 48 := by rw [show x / 10 % 10 = 0 by omega]; rfl
    rw [e1, e2, show x % 10 = x by omega]
    exact appendInt_3_1 v x g bs w h h0 a hl
  · by_cases b : x ≤ 99
    · have e1 : dg (x / 100) = 48 := by rw [show x / 100 = 0 by omega]; rfl
      rw [e1, show x / 10 % 10 = x / 10 by omega]
      exact appendInt_3_2 v x g bs w h (by omega) b hl
    · exact appendInt_3_3 v x g bs w h (by omega) (by omega) hl
end Go.Proofs.YtkcgngpoegglnaaGreatDoor
