/- The first package: a time's text by a format that was made ready. · The first package: the text of a time (FormatString). · The thin package: the closure that writes a time, for each of the two packages. · The reference: its calendar (printed by gen_spa.py). -/
import Derived.Test.YtkcgngpoegglnaaGreatDoorM25
import Derived.Test.YtkcgngpoegglnaaGreatDoorM37
import Derived.Test.YtkcgngpoegglnaaGreatDoorM38
import Derived.Test.YtkcgngpoegglnaaGreatDoorM39
import Derived.Test.YtkcgngpoegglnaaGreatDoorM35
import Derived.LoopTactic
/- The first package: a time's text by a format that was made ready. -/
section
namespace Go.Proofs.YtkcgngpoegglnaaGreatDoor
open Go Go.RowKit
set_option linter.unusedVariables false
set_option linter.unusedSimpArgs false

/-- what holds at the head of a round. -/
def FormI (T : STime) (w0 : World) (tb : Nat) (wl ex : Int) (lc : Option Addr) (xs : List Value) (X : List UInt8) (t1 t14 : Value) (w : World) : Prop :=
  ∃ (i g : Nat) (out rest : List UInt8) (vs : List Value) (aps : List Ap), t14 = .int .i64 i ∧ i ≤ xs.length ∧ xs.drop i = vs ∧ Apps w0 T vs aps rest ∧ (∀ a ∈ aps, a.len ≤ 960) ∧ out ++ rest = X ∧
    Buf w g t1 out ∧ w0.heap.size ≤ g ∧ Below w0.heap.size w0 w ∧ w.heap[tb]? = some (.cells #[.int .u64 wl, .int .i64 ex, .pointer lc] 48 (0, 0)) ∧ tb ≠ g

theorem len_of_mem {l : List Ap} {a : Ap} (h : a ∈ l) : a.len ≤ apsLen l := by
  induction l with
  | nil => cases h
  | cons b l ih =>
    have e : apsLen (b :: l) = b.len + apsLen l := by simp [apsLen]
    rcases List.mem_cons.1 h with rfl | h
    · omega
    · have := ih h; omega

theorem Apps.head {w : World} {T : STime} {v : Value} {vs : List Value} {aps : List Ap} {x : List UInt8} (h : Apps w T (v :: vs) aps x) : ∃ a l x1 x2, aps = a :: l ∧ x = x1 ++ x2 ∧ ApIs w v a ∧ ApOK T a x1 ∧ Apps w T vs l x2 := by
  cases aps with
  | nil => exact (h : False).elim
  | cons a l =>
    obtain ⟨x1, x2, e, h1, h2, h3⟩ := h
    exact ⟨a, l, x1, x2, rfl, e, h1, h2, h3⟩

theorem Appended.belowC {w w' : World} {g g' C : Nat} {out : List UInt8} {v' : Value} (h : Appended w g out g' v' w') (hC : C ≤ w.heap.size) (hg : C ≤ g) : Below C w w' :=
  below_of_grown h.grown hC (fun k e => by simp at e; omega)

set_option maxRecDepth 100000 in
set_option maxHeartbeats 8000000 in
theorem format_any (T : STime) (hR : RightT T) (w0 w : World) (f g : Nat) (v : Value) (l X : List UInt8) (wl ex : Int) (lc : Option Addr) (hE : Env w0 w0.heap.size wl ex lc (absT T) T.nm T.off) (hRd : ReadyAt w0 T f l X)
    (hb : Below w0.heap.size w0 w) (hB : Buf w g v []) (hg : w0.heap.size ≤ g) (hX : X.length ≤ 400000) :
    Calls Tryz.prog 33 #[.pointer (some ⟨f, 0, none⟩), v, .agg #[.int .u64 wl, .int .i64 ex, .pointer lc]] w (RowPost w0 w0.heap.size X) := by
  obtain ⟨ca, lv, xs, aps, hf, hown, his, hn, hm⟩ := hRd
  have hf' := (hb.block f (lt_of_block hf)).trans hf
  have hc1 := cell_of_row w f 1 _ _ _ hf'
  simp only [List.getElem?_toArray, List.getElem?_cons_zero, List.getElem?_cons_succ] at hc1
  have hfl := lt_of_block hf'
  have hbl := hB.lt
  obtain ⟨ad, cap, rfl, had⟩ : ∃ ad cap, lv = .slice ad xs.length cap ∧ ∀ i, i < xs.length → ∃ gl, ad = some ⟨gl, 0, none⟩ ∧ w0.cell? ⟨gl, i, none⟩ = xs[i]? ∧ gl < w0.heap.size := by
    rcases hown.2 with ⟨e1, e2⟩ | ⟨gl, cap, cur, e1, _⟩
    · exact ⟨none, 0, by rw [e1, e2], fun i hi => by omega⟩
    · subst e1
      exact ⟨some ⟨gl, 0, none⟩, cap, rfl, fun i hi => ⟨gl, rfl, hown.cellAt i (by omega), (hown.lt gl rfl).2⟩⟩
  have I0 := Lib.hid (show FormI T w0 w.heap.size wl ex lc xs X v (.int .i64 0) (w.alloc (.cells #[.int .u64 wl, .int .i64 ex, .pointer lc] 48)) from
    ⟨0, g, [], X, xs, aps, rfl, Nat.zero_le _, rfl, his, fun a ha => Nat.le_trans (len_of_mem ha) hm, rfl, hB.alloc _, hg, hb.alloc (by exact hb.size) _, new_block _ _, by omega⟩)
  have HE := Lib.hid hE
  have HB := Lib.hid hb
  have HD := Lib.hid had
  clear hE hf hown his hm hb hB hg hf' had
  go_enter Tryz.func33, Tryz.ntmps33
  go_wp2
  go_loopw [1, 14] (fun t1 t14 wr => FormI T w0 w.heap.size wl ex lc xs X t1 t14 wr) (fun _ t14 _ => xs.length - (intOf t14).toNat)
  case atStart => exact I0.out
  case round =>
    obtain ⟨i, g, out, rest, vs, aps, rfl, hi, hvs, his, hal, ho, hB, hg, hbel, htb, hne⟩ := hrel
    by_cases hlt : i < xs.length
    · have hd : xs.drop i = xs[i] :: xs.drop (i + 1) := List.drop_eq_getElem_cons hlt
      rw [hd] at hvs
      subst hvs
      obtain ⟨a, la, x1, x2, rfl, rfl, h1, h2, h3⟩ := his.head
      obtain ⟨gl, rfl, hcell, hgl⟩ := HD.out i hlt
      rw [List.getElem?_eq_getElem hlt] at hcell
      have hcell' : wr.cell? ⟨gl, i, none⟩ = some xs[i] := by rw [← hcell]; exact hbel.cell (p := ⟨gl, i, none⟩) hgl
      have hE' := (HE.out.below hbel)
      have hol : (out ++ x1).length ≤ 400000 := by have := congrArg List.length ho; simp at this ⊢; omega
      obtain ⟨t, u, k, r, e0, hm, hcf, HCall⟩ := app_any hR hE' (h1.below hbel) h2 (by have := hal a List.mem_cons_self; omega) hB hg hol
      unfold Enters at hcf
      rw [e0] at hcell'
      have ht0 := cell_of_row wr w.heap.size 0 _ _ _ htb
      have ht1 := cell_of_row wr w.heap.size 1 _ _ _ htb
      have ht2 := cell_of_row wr w.heap.size 2 _ _ _ htb
      simp only [List.getElem?_toArray, List.getElem?_cons_zero, List.getElem?_cons_succ] at ht0 ht1 ht2
      have htl := lt_of_block htb
      have hlt' : (i : Int) < (xs.length : Int) := by omega
      have hi0 : (0 : Int) ≤ (i : Int) := by omega
      have HI := Lib.hid (And.intro h3 (And.intro hbel (And.intro htb (And.intro hal ho))))
      have hgw := hbel.size
      clear his hd h1 h2 h3 hcell hbel htb hE' hal ho hB e0
      go_wp2_with (fail)
      refine HCall.mono ?_
      rintro e w1 ⟨g', v', rfl, hA⟩
      have AA := Lib.hid hA
      clear hA HCall
      dsimp only
      go_wp2
      obtain ⟨k3, kb, kt, ka, ko⟩ := HI.out
      have hA := AA.out
      refine ⟨⟨i + 1, g', out ++ x1, x2, xs.drop (i + 1), la, by go_num, by omega, rfl, k3, fun b hb => ka b (List.mem_cons_of_mem _ hb), by rw [List.append_assoc]; exact ko, hA.buf, ?_, kb.trans (hA.belowC hgw hg), (hA.grown.block _ htl (by intro e; exact hne (Option.some.inj e))).trans kt, ?_⟩, by simp [intOf]; omega⟩
      · rcases hA.at_ with e | e <;> omega
      · rcases hA.at_ with e | e <;> omega
    · have hil : i = xs.length := by omega
      have hvn : vs = [] := by rw [← hvs, hil, List.drop_length]
      subst hvn
      have hrn : rest = [] := by
        cases aps with
        | nil => exact his
        | cons a l => exact (his : False).elim
      subst hrn
      rw [List.append_nil] at ho
      subst ho
      have HF := Lib.hid (And.intro hB hbel)
      have hnl : ¬ (i : Int) < (xs.length : Int) := by omega
      clear hB hbel his hvs hal htb
      go_wp2
      go_ret
      exact ⟨g, _, rfl, HF.out.1, HF.out.2⟩
end Go.Proofs.YtkcgngpoegglnaaGreatDoor
end
/- The first package: the text of a time (FormatString). -/
section
namespace Go.Proofs.YtkcgngpoegglnaaGreatDoor
open Go Go.RowKit
set_option linter.unusedVariables false
set_option linter.unusedSimpArgs false

set_option maxRecDepth 100000 in
set_option maxHeartbeats 4000000 in
theorem firString_any (T : STime) (hR : RightT T) (w : World) (f : Nat) (l X : List UInt8) (wl ex : Int) (lc : Option Addr) (hE : Env w w.heap.size wl ex lc (absT T) T.nm T.off) (hRd : ReadyAt w T f l X) (hl : l.length ≤ 60) (hX : X.length ≤ 400000) :
    Calls Tryz.prog 17 #[.pointer (some ⟨f, 0, none⟩), .agg #[.int .u64 wl, .int .i64 ex, .pointer lc]] w fun e w' => e = .returned (.string (bs X)) ∧ Below w.heap.size w w' := by
  have HF := fun (w1 : World) (g : Nat) (v : Value) (hb : Below w.heap.size w w1) (hB : Buf w1 g v []) (hg : w.heap.size ≤ g) => format_any T hR w w1 f g v l X wl ex lc hE hRd hb hB hg hX
  obtain ⟨ca, lv, xs, aps, hf, _⟩ := hRd
  have hc0 := cell_of_row w f 0 _ _ _ hf
  simp only [List.getElem?_toArray, List.getElem?_cons_zero] at hc0
  have hfl := lt_of_block hf
  have hsz := bs_size l
  have hs2 : (bs l).size ≤ 60 := by omega
  clear hE hX hf hsz
  generalize bs l = s at *
  by_cases hs : s.size < 54
  · have hs1 : (s.size : Int) + 10 < 64 := by omega
    go_enter Tryz.func17, Tryz.ntmps17
    go_wp2_with (fail)
    go_at_call 33
    have hb64 := buf_new (w.alloc (.cells #[.int .u64 wl, .int .i64 ex, .pointer lc] 48)) 64 79 (by decide)
    rw [World.size_alloc] at hb64
    refine (HF _ (w.heap.size + 1) _ (((Below.refl _ _).alloc (Nat.le_refl _) _).alloc (by simp) _) hb64 (by omega)).mono ?_
    rintro e w2 ⟨g2, v2, rfl, hB2, hb2⟩
    obtain ⟨cap2, rfl, _, _⟩ := hB2.slice
    have kb := conv_bytes hB2
    dsimp only
    go_wp2
    go_ret
    exact ⟨rfl, hb2⟩
  · have hs1 : ¬ (s.size : Int) + 10 < 64 := by omega
    have hmk : ∀ w, (Instr.makeSlice 34 (.int .i64 0) (.int .i64 ((s.size : Int) + 10))).run Tryz.prog w = .ok (.slice (some ⟨w.heap.size, 0, none⟩) 0 (s.size + 10)) (w.alloc (.cells (cellsOfBytes (List.replicate (s.size + 10) 0)).toArray 5)) := fun w => run_make_bytes w (s.size + 10) (by omega)
    have hbn := fun w => buf_new w (s.size + 10) 5 (by unfold maxLen; omega)
    generalize (cellsOfBytes (List.replicate (s.size + 10) 0)).toArray = cs at hmk hbn
    have H := Lib.hid hbn
    clear hbn
    go_enter Tryz.func17, Tryz.ntmps17
    go_wp2_with (fail)
    go_at_call 33
    have hbc := H.out (w.alloc (.cells #[.int .u64 wl, .int .i64 ex, .pointer lc] 48))
    rw [World.size_alloc] at hbc
    refine (HF _ (w.heap.size + 1) _ (((Below.refl _ _).alloc (Nat.le_refl _) _).alloc (by simp) _) hbc (by omega)).mono ?_
    rintro e w2 ⟨g2, v2, rfl, hB2, hb2⟩
    obtain ⟨cap2, rfl, _, _⟩ := hB2.slice
    have kb := conv_bytes hB2
    clear hbc hmk H
    dsimp only
    go_wp2
    go_ret
    exact ⟨rfl, hb2⟩
end Go.Proofs.YtkcgngpoegglnaaGreatDoor
end
/- The thin package: the closure that writes a time, for each of the two packages. -/
section
namespace Go.Proofs.YtkcgngpoegglnaaGreatDoor
open Go Go.RowKit
set_option linter.unusedVariables false
set_option linter.unusedSimpArgs false

/-- the tables that a run reads. -/
structure Base (w : World) : Prop where
  x : Std0x w
  t : Pow10 w

theorem Base.two {w : World} (h : Base w) : 2 ≤ w.heap.size := World.block_lt_of_cell? w _ h.x.1

theorem Base.below {w w' : World} (h : Base w) (hb : Below w.heap.size w w') : Base w' :=
  ⟨std0x_below h.x hb h.two, Lib.tabBelow_of_tabIs h.t w' hb⟩

theorem Base.env {w : World} (h : Base w) {wl ex : Int} {lc : Option Addr} {A : Int} {nm : ByteArray} {off : Int} (ht : TimeAt w w.heap.size wl ex lc A nm off) : Env w w.heap.size wl ex lc A nm off :=
  ⟨ht, h.x, Lib.tabBelow_of_tabIs h.t, h.two⟩

/-- the cells of a time. -/
def timeCells (T : STime) : Array Value := #[.int .i64 T.y, .int .i64 T.m, .int .i64 T.d, .int .i64 T.hh, .int .i64 T.mm, .int .i64 T.ss, .int .i64 T.ns, .int .i64 T.off, .string T.nm]

/-- the end of the closure's run. -/
def ClosPost (w : World) (p3 p4 : Nat) (X : List UInt8) (e : Ending) (w' : World) : Prop :=
  e = .returned (.tuple #[]) ∧ ∃ w2, Below w.heap.size w w2 ∧ w' = (w2.setCell ⟨p3, 0, none⟩ (.string (bs X))).setCell ⟨p4, 0, none⟩ (.bool true)

theorem moment_T {T : STime} (hR : RightT T) (w : World) : Calls Tryz.prog 18 #[.agg (timeCells T)] w (MomentPost w T.ns (absT T) T.nm T.off) :=
  moment_any T.y T.m T.d T.hh T.mm T.ss T.ns T.off T.nm w hR.y0 hR.y1 hR.m0 hR.m1 hR.d0 hR.dd hR.h0 hR.h1 hR.n0 hR.n1 hR.s0 hR.s1 hR.k0 hR.k1 hR.o0 hR.o1

theorem ReadyAt.below {w w' : World} {T : STime} {f : Nat} {l y : List UInt8} (h : ReadyAt w T f l y) (hb : Below w.heap.size w w') : ReadyAt w' T f l y := by
  obtain ⟨ca, lv, xs, aps, h1, h2, h3, h4, h5⟩ := h
  exact ⟨ca, lv, xs, aps, (hb.block f (lt_of_block h1)).trans h1, own_keep h2 hb, Apps.keep (fun _ _ hv => hv.below hb) _ _ _ h3, h4, h5⟩

theorem keep_cell {w w' : World} {p : Nat} {v : Value} (hb : Below w.heap.size w w') (h : w.cell? ⟨p, 0, none⟩ = some v) : w'.cell? ⟨p, 0, none⟩ = some v :=
  cell_keeps hb h
theorem keep_frozen {w w' : World} {p : Nat} (hb : Below w.heap.size w w') (hl : p < w.heap.size) (h : w.frozen? ⟨p, 0, none⟩ = false) : w'.frozen? ⟨p, 0, none⟩ = false :=
  (hb.frozen (p := ⟨p, 0, none⟩) hl).trans h

section
variable {T : STime} {w : World} {l X : List UInt8} {p0 p1 p2 p3 p4 : Nat} {s0 : ByteArray} {b0 : Bool}

set_option maxRecDepth 100000 in
set_option maxHeartbeats 4000000 in
theorem clos_first (hR : RightT T) (hB : Base w) (hx : textF T l = some X) (hf : firstF l = true) (hl : l.length ≤ 60) (hX : X.length ≤ 400000)
    (c0 : w.cell? ⟨p0, 0, none⟩ = some (.int .i64 0)) (c1 : w.cell? ⟨p1, 0, none⟩ = some (.string (bs l))) (c2 : w.heap[p2]? = some (.cells (timeCells T) 23 (0, 0)))
    (c3 : w.cell? ⟨p3, 0, none⟩ = some (.string s0)) (c4 : w.cell? ⟨p4, 0, none⟩ = some (.bool b0)) (f3 : w.frozen? ⟨p3, 0, none⟩ = false) (f4 : w.frozen? ⟨p4, 0, none⟩ = false) (h34 : p3 ≠ p4) :
    Calls Tryz.prog 15 #[.pointer (some ⟨p0, 0, none⟩), .pointer (some ⟨p1, 0, none⟩), .pointer (some ⟨p2, 0, none⟩), .pointer (some ⟨p3, 0, none⟩), .pointer (some ⟨p4, 0, none⟩)] w (ClosPost w p3 p4 X) := by
  have h43 := h34.symm
  have l0 := World.block_lt_of_cell? w _ c0
  have l1 := World.block_lt_of_cell? w _ c1
  have l2 := lt_of_block c2
  have l3 := World.block_lt_of_cell? w _ c3
  have l4 := World.block_lt_of_cell? w _ c4
  simp only at l0 l1 l3 l4
  have e0 := cell_of_row w p2 0 _ _ _ c2
  have e1 := cell_of_row w p2 1 _ _ _ c2
  have e2 := cell_of_row w p2 2 _ _ _ c2
  have e3 := cell_of_row w p2 3 _ _ _ c2
  have e4 := cell_of_row w p2 4 _ _ _ c2
  have e5 := cell_of_row w p2 5 _ _ _ c2
  have e6 := cell_of_row w p2 6 _ _ _ c2
  have e7 := cell_of_row w p2 7 _ _ _ c2
  have e8 := cell_of_row w p2 8 _ _ _ c2
  simp only [timeCells, List.getElem?_toArray, List.getElem?_cons_zero, List.getElem?_cons_succ] at e0 e1 e2 e3 e4 e5 e6 e7 e8
  have H1 := new_any T hR w l X hx hf hl
  go_enter Tryz.func15, Tryz.ntmps15
  go_wp2_with (fail)
  go_at_call 16
  refine H1.mono ?_
  rintro e w1 ⟨f, rfl, hr1, hb1⟩
  obtain ⟨hc1, hf1⟩ := bcell hb1
  have R1 := Lib.hid hr1
  have B1 := Lib.hid hb1
  clear hr1 hb1 H1
  dsimp only
  go_wp2_with (fail)
  go_at_call 18
  refine (moment_T hR w1).mono ?_
  rintro e w2 ⟨ex, lc, rfl, hb2, ht⟩
  have R2 := Lib.hid (R1.out.below hb2)
  have B2 := Lib.hid (B1.out.trans (hb2.mono B1.out.size))
  have T2 := Lib.hid ht
  clear hb2 ht hc1 hf1
  dsimp only
  go_wp2_with (fail)
  go_at_call 17
  refine (firString_any T hR w2 f l X T.ns ex lc ((hB.below B2.out).env T2.out) R2.out hl hX).mono ?_
  rintro e w3 ⟨rfl, hb3⟩
  have B3 := Lib.hid (B2.out.trans (hb3.mono B2.out.size))
  have d3 := keep_cell B3.out c3
  have d4 := keep_cell B3.out c4
  have k3 := keep_frozen B3.out l3 f3
  have k4 := keep_frozen B3.out l4 f4
  clear hb3
  dsimp only
  go_wp2
  first | go_end0 | refine bodyPost_ret (results_none rfl _ _ _) rfl ?_
  exact ⟨rfl, w3, B3.out, rfl⟩
set_option maxRecDepth 100000 in
set_option maxHeartbeats 4000000 in
theorem clos_second (hR : RightT T) (hB : Base w) (hx : textF T l = some X) (hl : l.length ≤ 60) (hX : X.length ≤ 400000)
    (c0 : w.cell? ⟨p0, 0, none⟩ = some (.int .i64 1)) (c1 : w.cell? ⟨p1, 0, none⟩ = some (.string (bs l))) (c2 : w.heap[p2]? = some (.cells (timeCells T) 23 (0, 0)))
    (c3 : w.cell? ⟨p3, 0, none⟩ = some (.string s0)) (c4 : w.cell? ⟨p4, 0, none⟩ = some (.bool b0)) (f3 : w.frozen? ⟨p3, 0, none⟩ = false) (f4 : w.frozen? ⟨p4, 0, none⟩ = false) (h34 : p3 ≠ p4) :
    Calls Tryz.prog 15 #[.pointer (some ⟨p0, 0, none⟩), .pointer (some ⟨p1, 0, none⟩), .pointer (some ⟨p2, 0, none⟩), .pointer (some ⟨p3, 0, none⟩), .pointer (some ⟨p4, 0, none⟩)] w (ClosPost w p3 p4 X) := by
  have h43 := h34.symm
  have l0 := World.block_lt_of_cell? w _ c0
  have l1 := World.block_lt_of_cell? w _ c1
  have l2 := lt_of_block c2
  have l3 := World.block_lt_of_cell? w _ c3
  have l4 := World.block_lt_of_cell? w _ c4
  simp only at l0 l1 l3 l4
  have e0 := cell_of_row w p2 0 _ _ _ c2
  have e1 := cell_of_row w p2 1 _ _ _ c2
  have e2 := cell_of_row w p2 2 _ _ _ c2
  have e3 := cell_of_row w p2 3 _ _ _ c2
  have e4 := cell_of_row w p2 4 _ _ _ c2
  have e5 := cell_of_row w p2 5 _ _ _ c2
  have e6 := cell_of_row w p2 6 _ _ _ c2
  have e7 := cell_of_row w p2 7 _ _ _ c2
  have e8 := cell_of_row w p2 8 _ _ _ c2
  simp only [timeCells, List.getElem?_toArray, List.getElem?_cons_zero, List.getElem?_cons_succ] at e0 e1 e2 e3 e4 e5 e6 e7 e8
  have HD := dirOK_of hR
  have hM := moment_T hR
  unfold timeCells at hM
  have hdd : Below w.heap.size w w.drew := ⟨rfl, rfl, rfl, Nat.le_refl _, fun _ _ => rfl⟩
  have KD := Lib.hid hdd
  have KC := Lib.hid c2
  clear c2 hdd
  go_enter Tryz.func15, Tryz.ntmps15
  go_wp2_with (fail)
  go_region_law (first
    | (go_simp; go_at_call 18; refine (hM _).mono ?_; rintro e w2 ⟨ex, lc, rfl, hb2, ht⟩; have B2 := Lib.hid (KD.out.trans hb2); have T2 := Lib.hid ht; have q1 := keep_cell B2.out c1; clear hb2 ht; dsimp only)
    | (go_simp; go_at_call 19; refine (secFormat_any T HD w2 T.ns ex lc l X (bs l) (bs_data l) (by omega) T2.out (hB.below B2.out).x hx hX).mono ?_; rintro e w3 ⟨rfl, hb3⟩; have B3 := Lib.hid (B2.out.trans (hb3.mono B2.out.size)); have d3 := keep_cell B3.out c3; have d4 := keep_cell B3.out c4; have k3 := keep_frozen B3.out l3 f3; have k4 := keep_frozen B3.out l4 f4; clear hb3; dsimp only))
  all_goals
    go_wp2
    first | go_end0 | refine bodyPost_ret (results_none rfl _ _ _) rfl ?_
    exact ⟨rfl, w3, B3.out, rfl⟩
end
end Go.Proofs.YtkcgngpoegglnaaGreatDoor
end
/- The reference: its calendar (printed by gen_spa.py). -/
section
namespace Go.Proofs.YtkcgngpoegglnaaGreatDoor
open Go Go.RowKit
set_option linter.unusedVariables false
set_option linter.unusedSimpArgs false

theorem spLeap_any (y : Int) (w : World) (h0 : 0 ≤ y) (h1 : y ≤ 20000) : Calls Tryz.prog 20 #[.int .i64 y] w fun e w' => e = .returned (.bool (lpY y == 1)) ∧ w = w' := by
  have e1 : Int.tmod y 4 = y % 4 := Int.tmod_eq_emod_of_nonneg h0
  have e2 : Int.tmod y 100 = y % 100 := Int.tmod_eq_emod_of_nonneg h0
  have e3 : Int.tmod y 400 = y % 400 := Int.tmod_eq_emod_of_nonneg h0
  by_cases a : (y % 4 == 0) = true
  · by_cases b : (y % 100 != 0) = true
    · have hl : (lpY y == 1) = true := by
        have a' : y % 4 = 0 := by simpa using a
        have b' : y % 100 ≠ 0 := by simpa using b
        unfold lpY; rw [if_pos ⟨a', .inl b'⟩]; rfl
      rw [hl]
      go_enter Tryz.func20, Tryz.ntmps20
      go_wp2
      go_ret
      exact ⟨rfl, rfl⟩
    · have b2 : (y % 100 != 0) = false := by simpa using b
      by_cases c : (y % 400 == 0) = true
      · have hl : (lpY y == 1) = true := by
          have a' : y % 4 = 0 := by simpa using a
          have c' : y % 400 = 0 := by simpa using c
          unfold lpY; rw [if_pos ⟨a', .inr c'⟩]; rfl
        rw [hl]
        clear b
        go_enter Tryz.func20, Tryz.ntmps20
        go_wp2
        go_ret
        exact ⟨rfl, rfl⟩
      · have c2 : (y % 400 == 0) = false := by simpa using c
        have hl : (lpY y == 1) = false := by
          have b' : y % 100 = 0 := by simpa using b
          have c' : y % 400 ≠ 0 := by simpa using c
          unfold lpY; rw [if_neg (by omega)]; rfl
        rw [hl]
        clear b c
        go_enter Tryz.func20, Tryz.ntmps20
        go_wp2
        go_ret
        exact ⟨rfl, rfl⟩
  · have a2 : (y % 4 == 0) = false := by simpa using a
    have hl : (lpY y == 1) = false := by
      have a' : y % 4 ≠ 0 := by simpa using a
      unfold lpY; rw [if_neg (by omega)]; rfl
    rw [hl]
    clear a
    go_enter Tryz.func20, Tryz.ntmps20
    go_wp2
    go_ret
    exact ⟨rfl, rfl⟩

theorem p_any (n : Int) (w : World) (h0 : 0 ≤ n) (h1 : n ≤ 20000) : Calls Tryz.prog 76 #[.int .i64 n] w fun e w' => e = .returned (.int .i64 ((n + n / 4 - n / 100 + n / 400) % 7)) ∧ w = w' := by
  have e1 : Int.tdiv n 4 = n / 4 := Int.tdiv_eq_ediv_of_nonneg h0
  have e2 : Int.tdiv n 100 = n / 100 := Int.tdiv_eq_ediv_of_nonneg h0
  have e3 : Int.tdiv n 400 = n / 400 := Int.tdiv_eq_ediv_of_nonneg h0
  go_enter Tryz.func76, Tryz.ntmps76
  go_wp2
  go_ret
  exact ⟨rfl, rfl⟩

theorem p_neg (w : World) : Calls Tryz.prog 76 #[.int .i64 (-1)] w fun e w' => e = .returned (.int .i64 (-1)) ∧ w = w' := by
  go_enter Tryz.func76, Tryz.ntmps76
  go_wp2
  go_ret
  exact ⟨rfl, rfl⟩

set_option maxRecDepth 100000 in
set_option maxHeartbeats 4000000 in
theorem weeks_any (y : Int) (w : World) (h0 : 0 ≤ y) (h1 : y ≤ 10000) : Calls Tryz.prog 39 #[.int .i64 y] w fun e w' => e = .returned (.int .i64 (weeksF y)) ∧ w = w' := by
  by_cases hz : y = 0
  · subst hz
    have hl : weeksF 0 = 52 := by decide
    rw [hl]
    go_enter Tryz.func39, Tryz.ntmps39
    go_wp2_with (go_at_call 76; first | (with_reducible refine (p_any 0 _ (by omega) (by omega)).mono ?_; rintro e w' ⟨rfl, rfl⟩) | (refine (p_neg _).mono ?_; rintro e w' ⟨rfl, rfl⟩))
    go_ret
    exact ⟨rfl, rfl⟩
  have P0 := fun w => p_any y w h0 (by omega)
  have P1 := fun w => p_any (y - 1) w (by omega) (by omega)
  have hW : weeksF y = if (y + y / 4 - y / 100 + y / 400) % 7 = 4 ∨ (y - 1 + (y - 1) / 4 - (y - 1) / 100 + (y - 1) / 400) % 7 = 3 then 53 else 52 := rfl
  generalize (y + y / 4 - y / 100 + y / 400) % 7 = a at *
  generalize (y - 1 + (y - 1) / 4 - (y - 1) / 100 + (y - 1) / 400) % 7 = b at *
  by_cases ha : (a == 4) = true
  · have hl : weeksF y = 53 := by rw [hW, if_pos (.inl (by simpa using ha))]
    rw [hl]
    clear hW hl
    go_enter Tryz.func39, Tryz.ntmps39
    go_wp2_with (go_at_call 76; with_reducible refine (P0 _).mono ?_; rintro e w' ⟨rfl, rfl⟩)
    go_ret
    exact ⟨rfl, rfl⟩
  · have ha2 : (a == 4) = false := by simpa using ha
    by_cases hb : (b == 3) = true
    · have hl : weeksF y = 53 := by rw [hW, if_pos (.inr (by simpa using hb))]
      rw [hl]
      clear hW hl ha
      go_enter Tryz.func39, Tryz.ntmps39
      go_wp2_with (go_at_call 76; first | (with_reducible refine (P0 _).mono ?_; rintro e w' ⟨rfl, rfl⟩) | (with_reducible refine (P1 _).mono ?_; rintro e w' ⟨rfl, rfl⟩))
      go_ret
      exact ⟨rfl, rfl⟩
    · have hb2 : (b == 3) = false := by simpa using hb
      have hl : weeksF y = 52 := by rw [hW, if_neg (by rintro (h | h); exact ha (by simpa using h); exact hb (by simpa using h))]
      rw [hl]
      clear hW hl ha hb
      go_enter Tryz.func39, Tryz.ntmps39
      go_wp2_with (go_at_call 76; first | (with_reducible refine (P0 _).mono ?_; rintro e w' ⟨rfl, rfl⟩) | (with_reducible refine (P1 _).mono ?_; rintro e w' ⟨rfl, rfl⟩))
      go_ret
      exact ⟨rfl, rfl⟩

set_option maxRecDepth 100000 in
set_option maxHeartbeats 8000000 in
theorem length_any (y m : Int) (w : World) (h0 : 0 ≤ y) (h1 : y ≤ 20000) (h2 : 1 ≤ m) (h3 : m ≤ 12) : Calls Tryz.prog 12 #[.int .i64 y, .int .i64 m] w fun e w' => e = .returned (.int .i64 (lenM y m)) ∧ Below w.heap.size w w' := by
  have L := fun w => spLeap_any y w h0 h1
  have hb : Below w.heap.size w w := Below.refl _ _
  rcases months m h2 h3 with rfl | rfl | rfl | rfl | rfl | rfl | rfl | rfl | rfl | rfl | rfl | rfl
  · rw [show lenM y 1 = 31 from rfl]
    go_enter Tryz.func12, Tryz.ntmps12
    go_wp2
    go_ret
    exact ⟨rfl, hb.alloc (Nat.le_refl _) _⟩
  · by_cases hy : (lpY y == 1) = true
    · have hl : lenM y 2 = 29 := by
        have : lpY y = 1 := by simpa using hy
        unfold lenM; rw [if_pos rfl, this]; rfl
      rw [hl]
      rw [hy] at L
      go_enter Tryz.func12, Tryz.ntmps12
      go_wp2_with (go_at_call 20; refine (L _).mono ?_; rintro e w' ⟨rfl, rfl⟩)
      go_ret
      exact ⟨rfl, hb⟩
    · have hy2 : (lpY y == 1) = false := by simpa using hy
      have hl : lenM y 2 = 28 := by
        have : lpY y ≠ 1 := by simpa using hy
        have := lpY_bd y
        unfold lenM; rw [if_pos rfl]; omega
      rw [hl]
      rw [hy2] at L
      go_enter Tryz.func12, Tryz.ntmps12
      go_wp2_with (go_at_call 20; refine (L _).mono ?_; rintro e w' ⟨rfl, rfl⟩)
      go_ret
      exact ⟨rfl, hb.alloc (Nat.le_refl _) _⟩
  · rw [show lenM y 3 = 31 from rfl]
    go_enter Tryz.func12, Tryz.ntmps12
    go_wp2
    go_ret
    exact ⟨rfl, hb.alloc (Nat.le_refl _) _⟩
  · rw [show lenM y 4 = 30 from rfl]
    go_enter Tryz.func12, Tryz.ntmps12
    go_wp2
    go_ret
    exact ⟨rfl, hb.alloc (Nat.le_refl _) _⟩
  · rw [show lenM y 5 = 31 from rfl]
    go_enter Tryz.func12, Tryz.ntmps12
    go_wp2
    go_ret
    exact ⟨rfl, hb.alloc (Nat.le_refl _) _⟩
  · rw [show lenM y 6 = 30 from rfl]
    go_enter Tryz.func12, Tryz.ntmps12
    go_wp2
    go_ret
    exact ⟨rfl, hb.alloc (Nat.le_refl _) _⟩
  · rw [show lenM y 7 = 31 from rfl]
    go_enter Tryz.func12, Tryz.ntmps12
    go_wp2
    go_ret
    exact ⟨rfl, hb.alloc (Nat.le_refl _) _⟩
  · rw [show lenM y 8 = 31 from rfl]
    go_enter Tryz.func12, Tryz.ntmps12
    go_wp2
    go_ret
    exact ⟨rfl, hb.alloc (Nat.le_refl _) _⟩
  · rw [show lenM y 9 = 30 from rfl]
    go_enter Tryz.func12, Tryz.ntmps12
    go_wp2
    go_ret
    exact ⟨rfl, hb.alloc (Nat.le_refl _) _⟩
  · rw [show lenM y 10 = 31 from rfl]
    go_enter Tryz.func12, Tryz.ntmps12
    go_wp2
    go_ret
    exact ⟨rfl, hb.alloc (Nat.le_refl _) _⟩
  · rw [show lenM y 11 = 30 from rfl]
    go_enter Tryz.func12, Tryz.ntmps12
    go_wp2
    go_ret
    exact ⟨rfl, hb.alloc (Nat.le_refl _) _⟩
  · rw [show lenM y 12 = 31 from rfl]
    go_enter Tryz.func12, Tryz.ntmps12
    go_wp2
    go_ret
    exact ⟨rfl, hb.alloc (Nat.le_refl _) _⟩

theorem cumM_next (y k : Int) (h1 : 1 ≤ k) (h2 : k ≤ 11) : cumM y (k + 1) = cumM y k + lenM y k := by
  have hc : k = 1 ∨ k = 2 ∨ k = 3 ∨ k = 4 ∨ k = 5 ∨ k = 6 ∨ k = 7 ∨ k = 8 ∨ k = 9 ∨ k = 10 ∨ k = 11 := by omega
  rcases hc with rfl | rfl | rfl | rfl | rfl | rfl | rfl | rfl | rfl | rfl | rfl <;> simp [cumM, lenM] <;> omega
end Go.Proofs.YtkcgngpoegglnaaGreatDoor
end
