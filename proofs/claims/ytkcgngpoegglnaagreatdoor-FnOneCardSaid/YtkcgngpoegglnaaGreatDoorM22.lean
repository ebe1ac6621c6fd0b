/- The second package: the parser's loop over a format. · The second package: numbers appended by the library; the directives that append one number without an open order. -/
import Derived.Laws.IdiomStrings
import Derived.LoopTactic
import Derived.Outline
import Derived.Test.YtkcgngpoegglnaaGreatDoorM17
import Derived.Test.YtkcgngpoegglnaaGreatDoorM14
/- The second package: the parser's loop over a format. -/
section
namespace Go.Proofs.YtkcgngpoegglnaaGreatDoor
open Go Go.RowKit
set_option linter.unusedVariables false
set_option linter.unusedSimpArgs false

theorem textF_lit {T : STime} {c : UInt8} {r x : List UInt8} (h : textF T (c :: r) = some x) (hc : c ≠ 37) : ∃ x', x = c :: x' ∧ textF T r = some x' ∧ 32 ≤ c.toNat ∧ c.toNat ≤ 126 := by
  cases r with
  | nil =>
    rw [textF, if_neg hc] at h
    split at h
    · rename_i hb
      exact ⟨[], (Option.some.inj h).symm, rfl, hb⟩
    · cases h
  | cons d r =>
    rw [textF, if_neg hc] at h
    split at h
    · rename_i hb
      rw [Option.map_eq_some_iff] at h
      obtain ⟨y, hy, rfl⟩ := h
      exact ⟨y, rfl, hy, hb⟩
    · cases h

theorem textF_dir {T : STime} {r x : List UInt8} (h : textF T (37 :: r) = some x) : ∃ c r' x1 x2, r = c :: r' ∧ oneF T c = some x1 ∧ textF T r' = some x2 ∧ x = x1 ++ x2 := by
  cases r with
  | nil => rw [textF, if_pos rfl] at h; cases h
  | cons c r =>
    rw [textF, if_pos rfl, Option.bind_eq_some_iff] at h
    obtain ⟨x1, h1, h2⟩ := h
    rw [Option.map_eq_some_iff] at h2
    obtain ⟨x2, h2, rfl⟩ := h2
    exact ⟨c, r, x1, x2, rfl, h1, h2, rfl⟩

theorem oneF_not {T : STime} {c : UInt8} {x : List UInt8} (h : oneF T c = some x) (d : UInt8) (hd : oneF T d = none) : c ≠ d := by
  rintro rfl
  rw [hd] at h; cases h

theorem u8_beq {c : UInt8} {d : Nat} (hd : d < 256) (h : c ≠ UInt8.ofNat d) : ((c.toNat : Int) == (d : Int)) = false := by
  rw [beq_eq_false_iff_ne]
  intro e
  apply h
  apply UInt8.toNat.inj
  rw [UInt8.toNat_ofNat']
  omega

/-- the parser's two closures. -/
def parserCells (b bt : Nat) : Array Value := #[.func (.func 52) #[] #[.pointer (some ⟨b, 0, none⟩), .pointer (some ⟨bt, 0, none⟩)], .func (.func 51) #[] #[.pointer (some ⟨b, 0, none⟩)]]

/-- each directive is written by the closure. -/
def DirOK (T : STime) : Prop := ∀ (c : UInt8) (x : List UInt8), oneF T c = some x → ∀ (w : World) (b bt g C : Nat) (v : Value) (out : List UInt8) (wl ex : Int) (lc : Option Addr), St w b bt g v out C wl ex lc (absT T) T.nm T.off → out.length ≤ 400000 →
  Calls Tryz.prog 52 #[.int .u8 c.toNat, .int .u8 0, .pointer (some ⟨b, 0, none⟩), .pointer (some ⟨bt, 0, none⟩)] w (WrotePost w b g (out ++ x))

/-- the blocks that the parser reads. -/
structure Pars (w : World) (b bt bp bb : Nat) (l : List UInt8) : Prop where
  p : w.heap[bp]? = some (.cells (parserCells b bt) 134 (0, 0))
  s : ∃ (C : Array Value) (n : Nat), w.heap[bb]? = some (.cells C 5 (n, n + 1)) ∧ ∀ (k : Nat) (h : k < l.length), C[k]? = some (.int .u8 (l[k].toNat : Int))

theorem Pars.step {w w' : World} {b bt bp bb g g' : Nat} {l out o2 : List UInt8} {v v' : Value} (h : Pars w b bt bp bb l) (hd : DstAt w b g v out) (hW : Wrote w b g o2 g' v' w') : Pars w' b bt bp bb l := by
  obtain ⟨hp, Cc, n, hs, hk⟩ := h
  have p1 : bp ≠ b := by
    rintro rfl
    have e := hp.symm.trans hd.at_
    simp only [Option.some.injEq, Obj.cells.injEq] at e
    exact absurd e.2.1 (by decide)
  have p2 : bp ≠ g := by
    rintro rfl
    obtain ⟨rest, U, _, hg, _⟩ := hd.buf
    have e := hp.symm.trans hg
    simp only [Option.some.injEq, Obj.cells.injEq] at e
    have e1 := congrArg Array.toList e.1
    cases hx : out ++ rest with
    | nil =>
      rw [hx] at e1
      exact absurd (congrArg List.length e1) (by simp [cellsOfBytes, parserCells])
    | cons c l =>
      rw [hx] at e1
      have e2 := (List.cons.inj e1).1
      cases e2
  have s1 : bb ≠ b := by
    rintro rfl
    have e := hs.symm.trans hd.at_
    simp only [Option.some.injEq, Obj.cells.injEq] at e
    exact absurd e.2.1 (by decide)
  have s2 : bb ≠ g := by
    rintro rfl
    obtain ⟨rest, U, _, hg, _⟩ := hd.buf
    have e := hs.symm.trans hg
    simp at e
  exact ⟨(hW.block bp (lt_of_block hp) p2 p1).trans hp, Cc, n, (hW.block bb (lt_of_block hs) s2 s1).trans hs, hk⟩

theorem Pars.cellsP {w : World} {b bt bp bb : Nat} {l : List UInt8} (h : Pars w b bt bp bb l) : w.cell? ⟨bp, 0, none⟩ = some (.func (.func 52) #[] #[.pointer (some ⟨b, 0, none⟩), .pointer (some ⟨bt, 0, none⟩)]) ∧ w.cell? ⟨bp, 1, none⟩ = some (.func (.func 51) #[] #[.pointer (some ⟨b, 0, none⟩)]) := by
  constructor
  · rw [cell_of_row w bp 0 _ 134 (0, 0) h.p]; rfl
  · rw [cell_of_row w bp 1 _ 134 (0, 0) h.p]; rfl

theorem Pars.cellB {w : World} {b bt bp bb : Nat} {l : List UInt8} (h : Pars w b bt bp bb l) (k : Nat) (hk : k < l.length) : w.cell? ⟨bb, k, none⟩ = some (.int .u8 (l[k].toNat : Int)) := by
  obtain ⟨C, n, hs, hc⟩ := h.s
  rw [cell_of_row w bb k C 5 (n, n + 1) hs]
  exact hc k hk

/-- what holds at the head of a round of the parser. -/
def ParsI (T : STime) (w0 : World) (b bt bp bb g0 C : Nat) (l : List UInt8) (wl ex : Int) (lc : Option Addr) (total : List UInt8) (t8 t17 : Value) (w : World) : Prop :=
  ∃ (k g : Nat) (v : Value) (out : List UInt8), t17 = .int .i64 k ∧ k ≤ l.length ∧ Wrote w0 b g0 out g v w ∧ St w b bt g v out C wl ex lc (absT T) T.nm T.off ∧ Pars w b bt bp bb l ∧ total.length ≤ 400000 ∧
    ((t8 = .int .i64 0 ∧ ∃ x, textF T (l.drop k) = some x ∧ out ++ x = total) ∨ (t8 = .int .i64 1 ∧ ∃ c r x1 x2, l.drop k = c :: r ∧ oneF T c = some x1 ∧ textF T r = some x2 ∧ out ++ (x1 ++ x2) = total))

/-- the end of the parser's run. -/
def ParsPost (w0 : World) (b g0 : Nat) (total : List UInt8) (e : Ending) (w : World) : Prop := e = .returned .nilIface ∧ ∃ g v, Wrote w0 b g0 total g v w

theorem drop_get {l r : List UInt8} {c : UInt8} {k : Nat} (h : l.drop k = c :: r) : k < l.length ∧ (∀ hk : k < l.length, l[k] = c) ∧ l.drop (k + 1) = r := by
  have hk : k < l.length := by
    rcases Nat.lt_or_ge k l.length with h1 | h1
    · exact h1
    · rw [List.drop_eq_nil_of_le h1] at h; cases h
  have e := List.drop_eq_getElem_cons hk
  rw [h] at e
  exact ⟨hk, fun _ => (List.cons.inj e).1.symm, (List.cons.inj e).2.symm⟩

set_option maxRecDepth 100000 in
set_option maxHeartbeats 8000000 in
theorem parse_any (T : STime) (hD : DirOK T) (w : World) (b bt bp g C : Nat) (v : Value) (out : List UInt8) (wl ex : Int) (lc : Option Addr) (l x : List UInt8) (s : ByteArray) (hs : s.data.toList = l) (hll : l.length ≤ 100) (h : St w b bt g v out C wl ex lc (absT T) T.nm T.off)
    (hp : w.heap[bp]? = some (.cells (parserCells b bt) 134 (0, 0))) (hx : textF T l = some x) (hlen : (out ++ x).length ≤ 400000) :
    Calls Tryz.prog 75 #[.pointer (some ⟨bp, 0, none⟩), .string s] w (ParsPost w b g (out ++ x)) := by
  have hsz : s.size = l.length := by rw [← hs]; rfl
  have kc := fun (w : World) => run_bytes_of_string (P := Tryz.prog) w 9 34 5 s Tryz.underlying9 Tryz.underlying34 Tryz.underlying5
  have hin : ∀ cap o, ParsI T w b bt bp w.heap.size g C l wl ex lc (out ++ x) (.int .i64 0) (.int .i64 0) ((w.alloc (.cells (bytesRow s cap) 5 (o, o + 1))).drew) := by
    intro cap o
    have hb : Below w.heap.size w ((w.alloc (.cells (bytesRow s cap) 5 (o, o + 1))).drew) := ((Below.refl _ _).alloc (Nat.le_refl _) _).drew
    refine ⟨0, g, v, out, rfl, Nat.zero_le _, (Wrote.refl h.dst).post hb, h.below hb, ⟨(hb.block bp (lt_of_block hp)).trans hp, bytesRow s cap, o, ?_, ?_⟩, hlen, .inl ⟨rfl, x, by simpa using hx, rfl⟩⟩
    · show (w.heap.push _)[w.heap.size]? = _
      simp
    · intro k hk
      have hk' : k < s.data.size := by show k < s.size; omega
      simp only [bytesRow]
      rw [Array.getElem?_append_left (by simpa using hk')]
      subst hs
      simp
      exact ⟨s.data[k], Array.getElem?_eq_getElem hk', rfl⟩
  have I := Lib.hid hin
  clear hin hx hs hp h hlen
  go_enter Tryz.func75, Tryz.ntmps75
  go_wp2
  go_loopw [8, 17] (fun t8 t17 wr => ParsI T w b bt bp w.heap.size g C l wl ex lc (out ++ x) t8 t17 wr) (fun _ t17 _ => l.length - (intOf t17).toNat)
  case atStart => exact I.out _ _
  case round =>
    obtain ⟨k, g1, v1, out1, rfl, hk, hW, hS, hP, hlen, hcase⟩ := hrel
    have hol : out1.length ≤ 400000 := by
      rcases hcase with ⟨_, x', _, ht⟩ | ⟨_, c, r, x1, x2, _, _, _, ht⟩ <;> (have := congrArg List.length ht; simp at this hlen; omega)
    obtain ⟨pf, pl⟩ := hP.cellsP
    have HW := Lib.hid hW
    have HS := Lib.hid hS
    have HP := Lib.hid hP
    have HL := Lib.hid hlen
    clear hW hS hP hlen
    rcases hcase with ⟨rfl, x', hx', ht⟩ | ⟨rfl, c, r, x1, x2, hd, h1, h2, ht⟩
    · have HT := Lib.hid ht
      clear ht
      by_cases hlt : k < l.length
      · have hd : l.drop k = l[k] :: l.drop (k + 1) := List.drop_eq_getElem_cons hlt
        have hcell := HP.out.cellB k hlt
        rw [hd] at hx'
        clear hd
        generalize l[k] = c at *
        by_cases h37 : c = 37
        · subst h37
          obtain ⟨d, r', x1, x2, e1, e2, e3, rfl⟩ := textF_dir hx'
          have HX := Lib.hid (And.intro e1 (And.intro e2 e3))
          clear hx' e1 e2 e3
          go_wp2
          go_roundw
          case rel => exact ⟨k + 1, g1, v1, out1, by go_num, by omega, HW.out, HS.out, HP.out, HL.out, .inr ⟨rfl, d, r', x1, x2, HX.out.1, HX.out.2.1, HX.out.2.2, HT.out⟩⟩
          case measure => simp [intOf]; omega
        · have hb37 : ((c.toNat : Int) == 37) = false := u8_beq (d := 37) (by decide) h37
          obtain ⟨x2, rfl, hx2, _, _⟩ := textF_lit hx' h37
          have HX := Lib.hid hx2
          clear hx' hx2
          go_wp2_with (first | (go_at_call 51; refine (lit_any c b g1 v1 out1 wr HS.out.dst (by omega)).mono ?_; rintro e w1 ⟨rfl, g2, v2, hW2⟩; have HW2 := Lib.hid hW2; clear hW2))
          go_roundw
          case rel => exact ⟨k + 1, g2, v2, out1 ++ [c], by go_num, by omega, HW.out.trans HW2.out, HS.out.wrote HW2.out, HP.out.step HS.out.dst HW2.out, HL.out, .inl ⟨rfl, x2, HX.out, by rw [List.append_assoc]; exact HT.out⟩⟩
          case measure => simp [intOf]; omega
      · have hkl : k = l.length := by omega
        have hx0 : x' = [] := by
          rw [hkl, List.drop_length] at hx'
          exact (Option.some.inj (show some [] = some x' from hx')).symm
        subst hx0
        clear hx'
        go_wp2
        go_ret
        exact ⟨rfl, g1, v1, by have := HW.out; have e := HT.out; rw [List.append_nil] at e; rw [← e]; exact this⟩
    · have HT := Lib.hid ht
      clear ht
      obtain ⟨hlt, hget, hdr⟩ := drop_get hd
      have hcell := HP.out.cellB k hlt
      rw [hget hlt] at hcell
      have b45 : ((c.toNat : Int) == 45) = false := u8_beq (d := 45) (by decide) (oneF_not h1 45 rfl)
      have b58 : ((c.toNat : Int) == 58) = false := u8_beq (d := 58) (by decide) (oneF_not h1 58 rfl)
      have b69 : ((c.toNat : Int) == 69) = false := u8_beq (d := 69) (by decide) (oneF_not h1 69 rfl)
      have b79 : ((c.toNat : Int) == 79) = false := u8_beq (d := 79) (by decide) (oneF_not h1 79 rfl)
      have HX := Lib.hid (And.intro h1 (And.intro h2 hdr))
      clear hd hget hdr h1 h2
      go_wp2_with (first | (go_at_call 52; refine (hD c x1 HX.out.1 wr b bt g1 C v1 out1 wl ex lc HS.out (by omega)).mono ?_; rintro e w1 ⟨rfl, g2, v2, hW2⟩; have HW2 := Lib.hid hW2; clear hW2))
      go_roundw
      case rel => exact ⟨k + 1, g2, v2, out1 ++ x1, by go_num, by omega, HW.out.trans HW2.out, HS.out.wrote HW2.out, HP.out.step HS.out.dst HW2.out, HL.out, .inl ⟨rfl, x2, by rw [HX.out.2.2]; exact HX.out.2.1, by rw [List.append_assoc]; exact HT.out⟩⟩
      case measure => simp [intOf]; omega
end Go.Proofs.YtkcgngpoegglnaaGreatDoor
end
/- The second package: numbers appended by the library; the directives that append one number without an open order. -/
section
namespace Go.Proofs.YtkcgngpoegglnaaGreatDoor
open Go Go.RowKit
set_option linter.unusedVariables false
set_option linter.unusedSimpArgs false

theorem smalls_str (n : Int) (h0 : 0 ≤ n) (h1 : n ≤ 99) : smalls.extract (n * 2).toNat (n * 2 + 2).toNat = bs [dg (n / 10), dg (n % 10)] := by
  rw [bs_of (smalls.extract (n * 2).toNat (n * 2 + 2).toNat), smalls_ok n h0 h1]

theorem small_lt (n : Int) (w : World) (h0 : 0 ≤ n) (h1 : n < 10) : Calls Tryz.prog 128 #[.int .i64 n] w fun e w' => e = .returned (.string (bs [dg n])) ∧ w = w' := by
  have hn : n = 0 ∨ n = 1 ∨ n = 2 ∨ n = 3 ∨ n = 4 ∨ n = 5 ∨ n = 6 ∨ n = 7 ∨ n = 8 ∨ n = 9 := by omega
  rcases hn with rfl | rfl | rfl | rfl | rfl | rfl | rfl | rfl | rfl | rfl
  all_goals
    go_enter Tryz.func128, Tryz.ntmps128
    go_wp2
    go_ret
    exact ⟨rfl, rfl⟩

set_option maxRecDepth 100000 in
theorem small_ge (n : Int) (w : World) (h0 : 10 ≤ n) (h1 : n ≤ 99) : Calls Tryz.prog 128 #[.int .i64 n] w fun e w' => e = .returned (.string (bs [dg (n / 10), dg (n % 10)])) ∧ w = w' := by
  rw [← smalls_str n (by omega) h1]
  go_enter Tryz.func128, Tryz.ntmps128
  go_wp2
  go_ret
  exact ⟨rfl, rfl⟩

theorem appendUint_lt (v : Value) (n : Int) (g : Nat) (out : List UInt8) (w : World) (hB : Buf w g v out) (h0 : 0 ≤ n) (h1 : n < 10) (hl : out.length ≤ 800000) :
    Calls Tryz.prog 117 #[v, .int .u64 n, .int .i64 10] w (AppPost w g (out ++ [dg n])) := by
  have H := small_lt n w h0 h1
  generalize dg n = c at *
  go_enter Tryz.func117, Tryz.ntmps117
  go_wp2_with (first | (go_at_call 128; refine H.mono ?_; rintro e w' ⟨rfl, rfl⟩) | (at_builtin; refine wpList_append_buf (y := .string (bs [c])) (news := [c]) rfl _ _ 9 rfl (by go_simp) (by go_simp) hB (bytesIn_bs _ [c]) (by simp; omega) ?_; intro g' v' w1 happ))
  go_ret
  exact ⟨g', v', rfl, happ⟩

theorem appendUint_ge (v : Value) (n : Int) (g : Nat) (out : List UInt8) (w : World) (hB : Buf w g v out) (h0 : 10 ≤ n) (h1 : n ≤ 99) (hl : out.length ≤ 800000) :
    Calls Tryz.prog 117 #[v, .int .u64 n, .int .i64 10] w (AppPost w g (out ++ [dg (n / 10), dg (n % 10)])) := by
  have H := small_ge n w h0 h1
  generalize dg (n / 10) = c at *
  generalize dg (n % 10) = d at *
  go_enter Tryz.func117, Tryz.ntmps117
  go_wp2_with (first | (go_at_call 128; refine H.mono ?_; rintro e w' ⟨rfl, rfl⟩) | (at_builtin; refine wpList_append_buf (y := .string (bs [c, d])) (news := [c, d]) rfl _ _ 9 rfl (by go_simp) (by go_simp) hB (bytesIn_bs _ [c, d]) (by simp; omega) ?_; intro g' v' w1 happ))
  go_ret
  exact ⟨g', v', rfl, happ⟩

theorem appendInt_of (v : Value) (n : Int) (g : Nat) (out add : List UInt8) (w : World) (h0 : 0 ≤ n) (h1 : n ≤ 99) (H : Calls Tryz.prog 117 #[v, .int .u64 n, .int .i64 10] w (AppPost w g (out ++ add))) :
    Calls Tryz.prog 66 #[v, .int .i64 n, .int .i64 10] w (AppPost w g (out ++ add)) := by
  have H2 : Calls Tryz.prog 96 #[v, .int .i64 n, .int .i64 10] w (AppPost w g (out ++ add)) := by
    go_enter Tryz.func96, Tryz.ntmps96
    go_wp2_with (first | (go_at_call 117; refine H.mono ?_; rintro e w' ⟨g', v', rfl, happ⟩))
    go_ret
    exact ⟨g', v', rfl, happ⟩
  go_enter Tryz.func66, Tryz.ntmps66
  go_wp2_with (first | (go_at_call 96; refine H2.mono ?_; rintro e w' ⟨g', v', rfl, happ⟩))
  go_ret
  exact ⟨g', v', rfl, happ⟩

section
variable {w : World} {b bt g C : Nat} {v : Value} {out : List UInt8} {wl ex : Int} {lc : Option Addr} {A : Int} {nm : ByteArray} {off : Int}

set_option maxRecDepth 100000 in
set_option maxHeartbeats 4000000 in
theorem dir_I (h : St w b bt g v out C wl ex lc A nm off) (hl : out.length ≤ 400000) :
    Calls Tryz.prog 52 #[.int .u8 73, .int .u8 0, .pointer (some ⟨b, 0, none⟩), .pointer (some ⟨bt, 0, none⟩)] w (WrotePost w b g (out ++ d2 (h12 (A % 86400 / 3600)))) := by
  have H := append12_any h.tm v g out h.dst.buf (by omega)
  generalize d2 (h12 (A % 86400 / 3600)) = tx at *
  obtain ⟨c0, f0, c1, c2, c3⟩ := h.cells
  go_enter Tryz.func52, Tryz.ntmps52
  go_wp2_with (first | (go_at_call 59; refine H.mono ?_; rintro e w1 ⟨g', v', rfl, happ⟩; obtain ⟨n', cap', rfl⟩ := happ.buf.shape; obtain ⟨c10, f10⟩ := h.dst.cells_append happ))
  go_ret
  exact ⟨rfl, g', _, Wrote.of_append h.dst happ⟩

set_option maxRecDepth 100000 in
set_option maxHeartbeats 4000000 in
theorem dir_U (h : St w b bt g v out C wl ex lc A nm off) (hl : out.length ≤ 400000) :
    Calls Tryz.prog 52 #[.int .u8 85, .int .u8 0, .pointer (some ⟨b, 0, none⟩), .pointer (some ⟨bt, 0, none⟩)] w (WrotePost w b g (out ++ d2 ((ydayF (A / 86400) + 6 - (A / 86400 + 3) % 7) / 7))) := by
  have H := weekNum_sun h.tm v g out h.dst.buf (by omega)
  generalize d2 ((ydayF (A / 86400) + 6 - (A / 86400 + 3) % 7) / 7) = tx at *
  obtain ⟨c0, f0, c1, c2, c3⟩ := h.cells
  go_enter Tryz.func52, Tryz.ntmps52
  go_wp2_with (first | (go_at_call 67; refine H.mono ?_; rintro e w1 ⟨g', v', rfl, happ⟩; obtain ⟨n', cap', rfl⟩ := happ.buf.shape; obtain ⟨c10, f10⟩ := h.dst.cells_append happ))
  go_ret
  exact ⟨rfl, g', _, Wrote.of_append h.dst happ⟩

set_option maxRecDepth 100000 in
set_option maxHeartbeats 4000000 in
theorem dir_W (h : St w b bt g v out C wl ex lc A nm off) (hl : out.length ≤ 400000) :
    Calls Tryz.prog 52 #[.int .u8 87, .int .u8 0, .pointer (some ⟨b, 0, none⟩), .pointer (some ⟨bt, 0, none⟩)] w (WrotePost w b g (out ++ d2 ((ydayF (A / 86400) + 6 - ((A / 86400 + 3) % 7 + 6) % 7) / 7))) := by
  have H := weekNum_mon h.tm v g out h.dst.buf (by omega)
  generalize d2 ((ydayF (A / 86400) + 6 - ((A / 86400 + 3) % 7 + 6) % 7) / 7) = tx at *
  obtain ⟨c0, f0, c1, c2, c3⟩ := h.cells
  go_enter Tryz.func52, Tryz.ntmps52
  go_wp2_with (first | (go_at_call 67; refine H.mono ?_; rintro e w1 ⟨g', v', rfl, happ⟩; obtain ⟨n', cap', rfl⟩ := happ.buf.shape; obtain ⟨c10, f10⟩ := h.dst.cells_append happ))
  go_ret
  exact ⟨rfl, g', _, Wrote.of_append h.dst happ⟩

set_option maxRecDepth 100000 in
set_option maxHeartbeats 4000000 in
theorem dir_V (h : St w b bt g v out C wl ex lc A nm off) (hl : out.length ≤ 400000) :
    Calls Tryz.prog 52 #[.int .u8 86, .int .u8 0, .pointer (some ⟨b, 0, none⟩), .pointer (some ⟨bt, 0, none⟩)] w (WrotePost w b g (out ++ d2 ((ydayF (thuF (A / 86400)) - 1) / 7 + 1))) := by
  have hy := ydayF_bd (thuF (A / 86400))
  have H := iso_of h.tm
  have hx : 0 ≤ (ydayF (thuF (A / 86400)) - 1) / 7 + 1 ∧ (ydayF (thuF (A / 86400)) - 1) / 7 + 1 ≤ 99 := by omega
  generalize (ydayF (thuF (A / 86400)) - 1) / 7 + 1 = n at *
  unfold d2
  obtain ⟨c0, f0, c1, c2, c3⟩ := h.cells
  go_enter Tryz.func52, Tryz.ntmps52
  go_wp2_with (first | (go_at_call 68; refine H.mono ?_; rintro e w1 ⟨rfl, hb1⟩; have S1 := Lib.hid (h.below hb1); obtain ⟨c10, f10, c11, c12, c13⟩ := S1.out.cells) | (go_at_call 57; refine (appendInt2_zero _ _ _ _ _ S1.out.dst.buf (by omega) (by omega) (by omega)).mono ?_; rintro e w2 ⟨g', v', rfl, happ⟩; obtain ⟨n', cap', rfl⟩ := happ.buf.shape; obtain ⟨c20, f20⟩ := S1.out.dst.cells_append happ))
  go_ret
  exact ⟨rfl, g', _, (Wrote.of_append S1.out.dst happ).pre hb1⟩

set_option maxRecDepth 100000 in
set_option maxHeartbeats 4000000 in
theorem dir_w (h : St w b bt g v out C wl ex lc A nm off) (hl : out.length ≤ 400000) :
    Calls Tryz.prog 52 #[.int .u8 119, .int .u8 0, .pointer (some ⟨b, 0, none⟩), .pointer (some ⟨bt, 0, none⟩)] w (WrotePost w b g (out ++ [dg ((A / 86400 + 3) % 7)])) := by
  have H := weekday_of h.tm
  have hx : 0 ≤ (A / 86400 + 3) % 7 ∧ (A / 86400 + 3) % 7 ≤ 6 := by omega
  generalize (A / 86400 + 3) % 7 = n at *
  obtain ⟨c0, f0, c1, c2, c3⟩ := h.cells
  go_enter Tryz.func52, Tryz.ntmps52
  go_wp2_with (first | (go_at_call 53; refine H.mono ?_; rintro e w1 ⟨rfl, hb1⟩; have S1 := Lib.hid (h.below hb1); obtain ⟨c10, f10, c11, c12, c13⟩ := S1.out.cells) | (go_at_call 72; refine (appendInt1_any _ _ _ _ _ S1.out.dst.buf (by omega) (by omega) (by omega)).mono ?_; rintro e w2 ⟨g', v', rfl, happ⟩; obtain ⟨n', cap', rfl⟩ := happ.buf.shape; obtain ⟨c20, f20⟩ := S1.out.dst.cells_append happ))
  go_ret
  exact ⟨rfl, g', _, (Wrote.of_append S1.out.dst happ).pre hb1⟩

set_option maxRecDepth 100000 in
set_option maxHeartbeats 4000000 in
theorem dir_u (h : St w b bt g v out C wl ex lc A nm off) (hl : out.length ≤ 400000) :
    Calls Tryz.prog 52 #[.int .u8 117, .int .u8 0, .pointer (some ⟨b, 0, none⟩), .pointer (some ⟨bt, 0, none⟩)] w (WrotePost w b g (out ++ [dg (((A / 86400 + 3) % 7 + 6) % 7 + 1)])) := by
  have H := weekday_of h.tm
  have hx : 0 ≤ (A / 86400 + 3) % 7 ∧ (A / 86400 + 3) % 7 ≤ 6 := by omega
  generalize (A / 86400 + 3) % 7 = n at *
  obtain ⟨c0, f0, c1, c2, c3⟩ := h.cells
  rcases Decidable.em (n = 0) with hz | hz
  · subst hz
    rw [show dg ((0 + 6) % 7 + 1) = 55 by decide]
    go_enter Tryz.func52, Tryz.ntmps52
    go_wp2_with (first | (go_at_call 53; refine H.mono ?_; rintro e w1 ⟨rfl, hb1⟩; have S1 := Lib.hid (h.below hb1); obtain ⟨c10, f10, c11, c12, c13⟩ := S1.out.cells) | (at_builtin; refine wpList_append_buf rfl _ _ 34 rfl (by go_simp) (by go_simp) (S1.out.dst.buf.alloc _) (bytesIn_new1 _ 55 _ rfl) (by simp; omega) ?_; intro g' v' w2 happ; obtain ⟨n', cap', rfl⟩ := happ.buf.shape; obtain ⟨c20, f20⟩ := (S1.out.dst.alloc _).cells_append happ))
    go_ret
    exact ⟨rfl, g', _, ((Wrote.of_append (S1.out.dst.alloc _) happ).pre ((Below.refl _ _).alloc (Nat.le_refl _) _)).pre hb1⟩
  · have hz' : (n == 0) = false := beq_eq_false_iff_ne.mpr hz
    rw [show (n + 6) % 7 + 1 = n by omega]
    go_enter Tryz.func52, Tryz.ntmps52
    go_wp2_with (first | (go_at_call 53; refine H.mono ?_; rintro e w1 ⟨rfl, hb1⟩; have S1 := Lib.hid (h.below hb1); obtain ⟨c10, f10, c11, c12, c13⟩ := S1.out.cells) | (go_at_call 72; refine (appendInt1_any _ _ _ _ _ S1.out.dst.buf (by omega) (by omega) (by omega)).mono ?_; rintro e w2 ⟨g', v', rfl, happ⟩; obtain ⟨n', cap', rfl⟩ := happ.buf.shape; obtain ⟨c20, f20⟩ := S1.out.dst.cells_append happ))
    go_ret
    exact ⟨rfl, g', _, (Wrote.of_append S1.out.dst happ).pre hb1⟩

set_option maxRecDepth 100000 in
set_option maxHeartbeats 4000000 in
theorem dir_C (h : St w b bt g v out C wl ex lc A nm off) (hl : out.length ≤ 400000) (hy0 : 0 ≤ yearF (A / 86400)) (hy1 : yearF (A / 86400) ≤ 9999) :
    Calls Tryz.prog 52 #[.int .u8 67, .int .u8 0, .pointer (some ⟨b, 0, none⟩), .pointer (some ⟨bt, 0, none⟩)] w (WrotePost w b g (out ++ d2 (yearF (A / 86400) / 100))) := by
  have H := century_of h.tm hy0 hy1
  have hx : 0 ≤ yearF (A / 86400) / 100 ∧ yearF (A / 86400) / 100 ≤ 99 := by omega
  generalize yearF (A / 86400) / 100 = n at *
  obtain ⟨c0, f0, c1, c2, c3⟩ := h.cells
  rcases Decidable.em (n < 10) with hz | hz
  · have e : d2 n = [48, dg n] := by
      unfold d2
      rw [show n / 10 = 0 by omega, show n % 10 = n by omega]
      rfl
    rw [e]
    go_enter Tryz.func52, Tryz.ntmps52
    go_wp2_with (first | (go_at_call 65; refine H.mono ?_; rintro e w1 ⟨rfl, hb1⟩; have S1 := Lib.hid (h.below hb1); obtain ⟨c10, f10, c11, c12, c13⟩ := S1.out.cells) | (at_builtin; refine wpList_append_buf rfl _ _ 34 rfl (by go_simp) (by go_simp) (S1.out.dst.buf.alloc _) (bytesIn_new1 _ 48 _ rfl) (by simp; omega) ?_; intro g' v' w2 happ; obtain ⟨n', cap', rfl⟩ := happ.buf.shape; obtain ⟨c20, f20⟩ := (S1.out.dst.alloc _).cells_append happ; have W2 := Lib.hid (Wrote.of_append (S1.out.dst.alloc _) happ)) | (go_at_call 66; refine (appendInt_of _ n _ _ _ _ (by omega) (by omega) (appendUint_lt _ n _ _ _ W2.out.dst.buf (by omega) (by omega) (by simp; omega))).mono ?_; rintro e w3 ⟨g3, v3, rfl, happ3⟩; obtain ⟨n3, cap3, rfl⟩ := happ3.buf.shape; obtain ⟨c30, f30⟩ := W2.out.dst.cells_append happ3))
    go_ret
    have R := (((W2.out.pre ((Below.refl _ _).alloc (Nat.le_refl _) _)).trans (Wrote.of_append W2.out.dst happ3))).pre hb1
    rw [List.append_assoc] at R
    exact ⟨rfl, g3, _, R⟩
  · unfold d2
    go_enter Tryz.func52, Tryz.ntmps52
    go_wp2_with (first | (go_at_call 65; refine H.mono ?_; rintro e w1 ⟨rfl, hb1⟩; have S1 := Lib.hid (h.below hb1); obtain ⟨c10, f10, c11, c12, c13⟩ := S1.out.cells) | (go_at_call 66; refine (appendInt_of _ n _ _ _ _ (by omega) (by omega) (appendUint_ge _ n _ _ _ S1.out.dst.buf (by omega) (by omega) (by omega))).mono ?_; rintro e w3 ⟨g3, v3, rfl, happ3⟩; obtain ⟨n3, cap3, rfl⟩ := happ3.buf.shape; obtain ⟨c30, f30⟩ := S1.out.dst.cells_append happ3))
    go_ret
    exact ⟨rfl, g3, _, (Wrote.of_append S1.out.dst happ3).pre hb1⟩
end
end Go.Proofs.YtkcgngpoegglnaaGreatDoor
end
