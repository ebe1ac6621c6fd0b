/- The contract of the search for the next element of a layout. · Layouts ats rows of atoms: elements and plain letters; what stands ahead of the next element, and that nothing behind an element changes it. · The contract of the search for the next element of a layout, whole. -/
import Derived.Test.YtkcgngpoegglnaaGreatDoorM07
import Derived.Test.YtkcgngpoegglnaaGreatDoorM06
import Derived.Test.YtkcgngpoegglnaaGreatDoorM04
import Derived.Test.YtkcgngpoegglnaaGreatDoorM10
/- The contract of the search for the next element of a layout. -/
section
namespace Go.Proofs.YtkcgngpoegglnaaGreatDoor
open Go Go.RowKit
set_option linter.unusedVariables false
set_option linter.unusedSimpArgs false

/-- what must not follow an element. -/
def El.Follow : El → List UInt8 → Prop
  | .jan, r | .mon, r => ∀ c, r.head? = some c → c.toNat < 97
  | .u2, r => r.take 3 ≠ [48, 48, 54]
  | .tz, r => r.take 2 ≠ [48, 48]
  | _, _ => True

/-- letters at which no element begins. -/
def plainB (c : UInt8) : Bool := c == 32 || c == 58 || c == 47 || c == 37 || c == 10 || c == 9

/-- up to n no element begins. -/
def OkPre (n : Nat) (l : List UInt8) : Prop := ∀ k (h : k < l.length), k < n → plainB l[k] = true ∨ (l[k] = 45 ∧ (l.drop (k + 1)).take 2 ≠ [48, 55])

theorem get_of_drop {l m : List UInt8} {n : Nat} (h : l.drop n = m) (i : Nat) (hi : i < m.length) (hl : n + i < l.length) : l[n + i] = m[i] := by
  subst h
  simp

theorem get_int {l m : List UInt8} {n : Nat} (h : l.drop n = m) (i : Nat) (hi : i < m.length) (hl : n + i < (bs l).size) : (((bs l)[n + i]'hl).toNat : Int) = ((m[i]).toNat : Int) := by
  rw [bs_get, get_of_drop h i hi]

theorem ext_eq {l m : List UInt8} {n : Nat} (h : l.drop n = m) (a b : Nat) : ((bs l).extract (n + a) (n + b)).toList = (m.drop a).take (b - a) := by
  rw [bs_extract, bs_toList, ← h, List.drop_drop]
  congr 1
  omega

theorem ext_eq0 {l m : List UInt8} {n : Nat} (h : l.drop n = m) (b : Nat) : ((bs l).extract n (n + b)).toList = m.take b := by
  have := ext_eq h 0 b
  simpa using this

theorem ne_of_take {x lit : List UInt8} {m : Nat} (hm : 3 ≤ m) (h : x.take 3 ≠ lit.take 3) : (x.take m == lit) = false := by
  rw [beq_eq_false_iff_ne]
  intro e
  apply h
  rw [← e, List.take_take]
  congr 1
  omega

theorem lowNo_of (r : List UInt8) (hf : ∀ c, r.head? = some c → c.toNat < 97) : LowNo (bs r) := by
  cases r with
  | nil => exact .inl rfl
  | cons c r =>
    refine .inr ⟨by rw [bs_size]; simp, ?_⟩
    rw [bs_get]
    have := hf c rfl
    simp only [List.getElem_cons_zero]
    omega

theorem jan_not (r : List UInt8) (hf : ∀ c, r.head? = some c → c.toNat < 97) : (([74, 97, 110] ++ r).take 7 == [74, 97, 110, 117, 97, 114, 121]) = false := by
  cases r with
  | nil => rfl
  | cons c r =>
    have h := hf c rfl
    rw [beq_eq_false_iff_ne]
    intro e
    simp at e
    rw [e.1] at h
    exact absurd h (by decide)

theorem mon_not (r : List UInt8) (hf : ∀ c, r.head? = some c → c.toNat < 97) : (([77, 111, 110] ++ r).take 6 == [77, 111, 110, 100, 97, 121]) = false := by
  cases r with
  | nil => rfl
  | cons c r =>
    have h := hf c rfl
    rw [beq_eq_false_iff_ne]
    intro e
    simp at e
    rw [e.1] at h
    exact absurd h (by decide)

theorem u2_not (r : List UInt8) (hf : r.take 3 ≠ [48, 48, 54]) : ((([95, 50] ++ r).drop 1).take (5 - 1) == [50, 48, 48, 54]) = false := by
  rw [beq_eq_false_iff_ne]
  intro e
  simp at e
  exact hf e

theorem tz_not (r : List UInt8) (hf : r.take 2 ≠ [48, 48]) : (([45, 48, 55, 48, 48] ++ r).take 7 == [45, 48, 55, 48, 48, 48, 48]) = false := by
  rw [beq_eq_false_iff_ne]
  intro e
  simp at e
  exact hf e

/-- what the round leaves. -/
def ChunkQ (l : List UInt8) (n : Nat) (std : Int) (r : List UInt8) (w : World) (e : Exit) (a : Act) (w' : World) : Prop :=
  e = .ret ∧ ∃ (t : Array Value) (m : Nat), a = ⟨t, []⟩ ∧ w' = w.drewN m ∧ ChunkR (bs (l.take n)) std (bs r) t

theorem round_el (l : List UInt8) (n : Nat) (el : El) (r : List UInt8) (t : Array Value) (w : World) (K : Act → World → Prop) (hl : l.length ≤ 1000) (hd : l.drop n = el.bytes ++ r) (hf : el.Follow r) (hx : Std0x w) (ht : ChunkT (bs l) n t)
    (Q : Exit → Act → World → Prop) (hQ : ∀ (t' : Array Value) (m : Nat), ChunkR (bs (l.take n)) el.std (bs r) t' → Q .ret ⟨t', []⟩ (w.drewN m)) :
    chunkBody.wp Tryz.prog (Exit.then K Q) ⟨t, []⟩ w := by
  have hs : (bs l).size ≤ 1000 := by rw [bs_size]; exact hl
  have hlen : l.length - n = el.bytes.length + r.length := by have := congrArg List.length hd; simpa using this
  have e1 : (bs l).extract 0 n = bs (l.take n) := by rw [bs_extract]; simp
  have e2 : ∀ m, el.bytes.length = m → (bs l).extract (n + m) (bs l).size = bs r := by
    intro m hm
    rw [bs_extract, bs_size, List.take_of_length_le (by simp), ← List.drop_drop, hd, ← hm, List.drop_left]
  have hsz : (bs l).size = l.length := bs_size l
  cases el with
  | january =>
    simp only [El.bytes] at hd hlen e2
    simp only [List.length_cons, List.length_nil] at hlen
    refine chunk_January (bs l) n t w Q K hs (by omega) ht (by have := get_int hd 0 (by simp) (by omega); simpa using this) (by rw [ext_eq0 hd]; try rfl) (by rw [ext_eq0 hd]; try rfl) ?_
    rw [e1, e2 7 rfl]
    exact hQ
  | jan =>
    simp only [El.bytes] at hd hlen e2
    simp only [List.length_cons, List.length_nil] at hlen
    refine chunk_Jan (bs l) n t w Q K hs (by omega) ht (by have := get_int hd 0 (by simp) (by omega); simpa using this) (by rw [ext_eq0 hd]; try rfl) (fun _ => by rw [ext_eq0 hd]; exact jan_not r hf) (by rw [e2 3 rfl]; exact lowNo_of r hf) ?_
    rw [e1, e2 3 rfl]
    exact hQ
  | monday =>
    simp only [El.bytes] at hd hlen e2
    simp only [List.length_cons, List.length_nil] at hlen
    refine chunk_Monday (bs l) n t w Q K hs (by omega) ht (by have := get_int hd 0 (by simp) (by omega); simpa using this) (by rw [ext_eq0 hd]; try rfl) (by rw [ext_eq0 hd]; try rfl) ?_
    rw [e1, e2 6 rfl]
    exact hQ
  | mon =>
    simp only [El.bytes] at hd hlen e2
    simp only [List.length_cons, List.length_nil] at hlen
    refine chunk_Mon (bs l) n t w Q K hs (by omega) ht (by have := get_int hd 0 (by simp) (by omega); simpa using this) (by rw [ext_eq0 hd]; try rfl) (fun _ => by rw [ext_eq0 hd]; exact mon_not r hf) (by rw [e2 3 rfl]; exact lowNo_of r hf) ?_
    rw [e1, e2 3 rfl]
    exact hQ
  | z1 =>
    simp only [El.bytes] at hd hlen e2
    simp only [List.length_cons, List.length_nil] at hlen
    refine chunk_01 (bs l) n t w Q K hs (by omega) ht (by have := get_int hd 0 (by simp) (by omega); simpa using this) (by have := get_int hd 1 (by simp) (by omega); simpa using this) hx ?_
    rw [e1, e2 2 rfl]
    exact hQ
  | z2 =>
    simp only [El.bytes] at hd hlen e2
    simp only [List.length_cons, List.length_nil] at hlen
    refine chunk_02 (bs l) n t w Q K hs (by omega) ht (by have := get_int hd 0 (by simp) (by omega); simpa using this) (by have := get_int hd 1 (by simp) (by omega); simpa using this) hx ?_
    rw [e1, e2 2 rfl]
    exact hQ
  | z3 =>
    simp only [El.bytes] at hd hlen e2
    simp only [List.length_cons, List.length_nil] at hlen
    refine chunk_03 (bs l) n t w Q K hs (by omega) ht (by have := get_int hd 0 (by simp) (by omega); simpa using this) (by have := get_int hd 1 (by simp) (by omega); simpa using this) hx ?_
    rw [e1, e2 2 rfl]
    exact hQ
  | z4 =>
    simp only [El.bytes] at hd hlen e2
    simp only [List.length_cons, List.length_nil] at hlen
    refine chunk_04 (bs l) n t w Q K hs (by omega) ht (by have := get_int hd 0 (by simp) (by omega); simpa using this) (by have := get_int hd 1 (by simp) (by omega); simpa using this) hx ?_
    rw [e1, e2 2 rfl]
    exact hQ
  | z5 =>
    simp only [El.bytes] at hd hlen e2
    simp only [List.length_cons, List.length_nil] at hlen
    refine chunk_05 (bs l) n t w Q K hs (by omega) ht (by have := get_int hd 0 (by simp) (by omega); simpa using this) (by have := get_int hd 1 (by simp) (by omega); simpa using this) hx ?_
    rw [e1, e2 2 rfl]
    exact hQ
  | z6 =>
    simp only [El.bytes] at hd hlen e2
    simp only [List.length_cons, List.length_nil] at hlen
    refine chunk_06 (bs l) n t w Q K hs (by omega) ht (by have := get_int hd 0 (by simp) (by omega); simpa using this) (by have := get_int hd 1 (by simp) (by omega); simpa using this) hx ?_
    rw [e1, e2 2 rfl]
    exact hQ
  | z002 =>
    simp only [El.bytes] at hd hlen e2
    simp only [List.length_cons, List.length_nil] at hlen
    refine chunk_002 (bs l) n t w Q K hs (by omega) ht (by have := get_int hd 0 (by simp) (by omega); simpa using this) (by have := get_int hd 1 (by simp) (by omega); simpa using this) (by have := get_int hd 2 (by simp) (by omega); simpa using this) ?_
    rw [e1, e2 3 rfl]
    exact hQ
  | u2 =>
    simp only [El.bytes] at hd hlen e2
    simp only [List.length_cons, List.length_nil] at hlen
    refine chunk_u2 (bs l) n t w Q K hs (by omega) ht (by have := get_int hd 0 (by simp) (by omega); simpa using this) (by have := get_int hd 1 (by simp) (by omega); simpa using this) (fun _ => by rw [ext_eq hd 1 5]; exact u2_not r hf) ?_
    rw [e1, e2 2 rfl]
    exact hQ
  | y4 =>
    simp only [El.bytes] at hd hlen e2
    simp only [List.length_cons, List.length_nil] at hlen
    refine chunk_2006 (bs l) n t w Q K hs (by omega) ht (by have := get_int hd 0 (by simp) (by omega); simpa using this) (by rw [ext_eq0 hd]; try rfl) ?_
    rw [e1, e2 4 rfl]
    exact hQ
  | h15 =>
    simp only [El.bytes] at hd hlen e2
    simp only [List.length_cons, List.length_nil] at hlen
    refine chunk_15 (bs l) n t w Q K hs (by omega) ht (by have := get_int hd 0 (by simp) (by omega); simpa using this) (by have := get_int hd 1 (by simp) (by omega); simpa using this) ?_
    rw [e1, e2 2 rfl]
    exact hQ
  | pm =>
    simp only [El.bytes] at hd hlen e2
    simp only [List.length_cons, List.length_nil] at hlen
    refine chunk_PM (bs l) n t w Q K hs (by omega) ht (by have := get_int hd 0 (by simp) (by omega); simpa using this) (by have := get_int hd 1 (by simp) (by omega); simpa using this) ?_
    rw [e1, e2 2 rfl]
    exact hQ
  | mst =>
    simp only [El.bytes] at hd hlen e2
    simp only [List.length_cons, List.length_nil] at hlen
    refine chunk_MST (bs l) n t w Q K hs (by omega) ht (by have := get_int hd 0 (by simp) (by omega); simpa using this) (by rw [ext_eq0 hd]; try rfl) (by rw [ext_eq0 hd]; try rfl) ?_
    rw [e1, e2 3 rfl]
    exact hQ
  | tz =>
    simp only [El.bytes] at hd hlen e2
    simp only [List.length_cons, List.length_nil] at hlen
    refine chunk_zone (bs l) n t w Q K hs (by omega) ht (by have := get_int hd 0 (by simp) (by omega); simpa using this) (fun _ => by rw [ext_eq0 hd]; exact tz_not r hf) (fun _ => by rw [ext_eq0 hd]; try rfl) (by rw [ext_eq0 hd]; try rfl) ?_
    rw [e1, e2 5 rfl]
    exact hQ
end Go.Proofs.YtkcgngpoegglnaaGreatDoor
end
/- Layouts ats rows of atoms: elements and plain letters; what stands ahead of the next element, and that nothing behind an element changes it. -/
section
namespace Go.Proofs.YtkcgngpoegglnaaGreatDoor
open Go

/-- an atom of a layout: an element, or a letter that stays ats it is. -/
inductive Atom where
  | el (e : El)
  | ch (c : UInt8)

/-- the letters that may stand for themselves. -/
def okCh (c : UInt8) : Bool := plainB c || c == 45

def Atom.ok : Atom → Bool
  | .el _ => true
  | .ch c => okCh c
def Atom.bytes : Atom → List UInt8
  | .el e => e.bytes
  | .ch c => [c]
def Atom.text (A : Int) (nm : ByteArray) (off : Int) : Atom → List UInt8
  | .el e => e.text A nm off
  | .ch c => [c]
def lay (ats : List Atom) : List UInt8 := ats.flatMap Atom.bytes
def layText (A : Int) (nm : ByteArray) (off : Int) (ats : List Atom) : List UInt8 := ats.flatMap (Atom.text A nm off)
def okAtoms (ats : List Atom) : Prop := ∀ a ∈ ats, a.ok = true

theorem lay_cons (a : Atom) (ats : List Atom) : lay (a :: ats) = a.bytes ++ lay ats := rfl
theorem lay_append (ats bs : List Atom) : lay (ats ++ bs) = lay ats ++ lay bs := by simp [lay]
theorem layText_append (A : Int) (nm : ByteArray) (off : Int) (ats bs : List Atom) : layText A nm off (ats ++ bs) = layText A nm off ats ++ layText A nm off bs := by simp [layText]
theorem okAtoms_append {ats bs : List Atom} (ha : okAtoms ats) (hb : okAtoms bs) : okAtoms (ats ++ bs) := by
  intro a h
  rcases List.mem_append.1 h with h | h
  · exact ha a h
  · exact hb a h

/-- the heads that a layout can have. -/
theorem lay_head (ats : List Atom) (h : okAtoms ats) : lay ats = [] ∨ (∃ c r, lay ats = c :: r ∧ c ≠ 48 ∧ c.toNat < 97) ∨ (∃ c r, lay ats = 48 :: c :: r ∧ c ≠ 48 ∧ c ≠ 55) ∨ ∃ r, lay ats = 48 :: 48 :: 50 :: r := by
  cases ats with
  | nil => exact .inl rfl
  | cons a ats =>
    rw [lay_cons]
    cases a with
    | el e =>
      cases e with
      | z1 | z2 | z3 | z4 | z5 | z6 => exact .inr (.inr (.inl ⟨_, lay ats, rfl, by decide, by decide⟩))
      | z002 => exact .inr (.inr (.inr ⟨lay ats, rfl⟩))
      | _ => exact .inr (.inl ⟨_, _, rfl, by decide, by decide⟩)
    | ch c =>
      have hc := h _ List.mem_cons_self
      refine .inr (.inl ⟨c, lay ats, rfl, ?_, ?_⟩)
      all_goals
        simp only [Atom.ok, okCh, plainB, Bool.or_eq_true, beq_iff_eq] at hc
        rcases hc with (((((rfl | rfl) | rfl) | rfl) | rfl) | rfl) | rfl <;> decide

/-- an offset is never followed by the element of a year's day. -/
def noTz002 (ats : List Atom) : Prop := ∀ p q, ats = p ++ .el .tz :: q → (lay q).take 2 ≠ [48, 48]

/-- no atom is the element of a year's day. -/
def no002 (ats : List Atom) : Prop := .el .z002 ∉ ats

theorem lay_head2 (ats : List Atom) (h : okAtoms ats) (hn : no002 ats) : lay ats = [] ∨ (∃ c r, lay ats = c :: r ∧ c ≠ 48 ∧ c.toNat < 97) ∨ (∃ c r, lay ats = 48 :: c :: r ∧ c ≠ 48 ∧ c ≠ 55) := by
  cases ats with
  | nil => exact .inl rfl
  | cons a ats =>
    rw [lay_cons]
    cases a with
    | el e =>
      cases e with
      | z1 | z2 | z3 | z4 | z5 | z6 => exact .inr (.inr ⟨_, lay ats, rfl, by decide, by decide⟩)
      | z002 => exact absurd List.mem_cons_self hn
      | _ => exact .inr (.inl ⟨_, _, rfl, by decide, by decide⟩)
    | ch c =>
      have hc := h _ List.mem_cons_self
      refine .inr (.inl ⟨c, lay ats, rfl, ?_, ?_⟩)
      all_goals
        simp only [Atom.ok, okCh, plainB, Bool.or_eq_true, beq_iff_eq] at hc
        rcases hc with (((((rfl | rfl) | rfl) | rfl) | rfl) | rfl) | rfl <;> decide

theorem follow_of (e : El) (ats : List Atom) (h : okAtoms ats) (hn : no002 ats) : e.Follow (lay ats) := by
  rcases lay_head2 ats h hn with hl | ⟨c, r, hl, h1, h2⟩ | ⟨c, r, hl, h1, h2⟩
  · rw [hl]; cases e <;> simp [El.Follow]
  · rw [hl]; cases e <;> simp [El.Follow, h1, h2]
  · rw [hl]; cases e <;> simp [El.Follow, h1]

/-- the atoms ahead of the first element. -/
theorem split_el (ats : List Atom) (h : okAtoms ats) : (∃ p : List UInt8, ats = p.map Atom.ch ∧ ∀ c ∈ p, okCh c = true) ∨ ∃ (p : List UInt8) (e : El) (q : List Atom), ats = p.map Atom.ch ++ .el e :: q ∧ ∀ c ∈ p, okCh c = true := by
  induction ats with
  | nil => exact .inl ⟨[], rfl, by simp⟩
  | cons a ats ih =>
    have ha := h a List.mem_cons_self
    cases a with
    | el e => exact .inr ⟨[], e, ats, rfl, by simp⟩
    | ch c =>
      rcases ih (fun a h' => h a (List.mem_cons_of_mem _ h')) with ⟨p, rfl, hp⟩ | ⟨p, e, q, rfl, hp⟩
      · exact .inl ⟨c :: p, rfl, by intro x hx; rcases List.mem_cons.1 hx with rfl | hx; exact ha; exact hp x hx⟩
      · exact .inr ⟨c :: p, e, q, rfl, by intro x hx; rcases List.mem_cons.1 hx with rfl | hx; exact ha; exact hp x hx⟩

theorem lay_chs (p : List UInt8) : lay (p.map Atom.ch) = p := by
  induction p with
  | nil => rfl
  | cons c p ih => rw [List.map_cons, lay_cons, ih]; rfl
theorem layText_chs (A : Int) (nm : ByteArray) (off : Int) (p : List UInt8) : layText A nm off (p.map Atom.ch) = p := by
  induction p with
  | nil => rfl
  | cons c p ih => show c :: layText A nm off (p.map Atom.ch) = _; rw [ih]

/-- no element begins in these letters, whatever atoms follow. -/
theorem okPre_of (p : List UInt8) (q : List Atom) (hp : ∀ c ∈ p, okCh c = true) (hq : okAtoms q) : OkPre p.length (p ++ lay q) := by
  intro k hk hkp
  have hc := hp (p[k]) (List.getElem_mem hkp)
  have e : (p ++ lay q)[k] = p[k] := List.getElem_append_left hkp
  rw [e]
  simp only [okCh, Bool.or_eq_true, beq_iff_eq] at hc
  rcases hc with hc | hc
  · exact .inl hc
  · refine .inr ⟨hc, ?_⟩
    rw [List.drop_append_of_le_length (by omega)]
    cases hd : p.drop (k + 1) with
    | nil =>
      rw [List.nil_append]
      rcases lay_head q hq with hl | ⟨c, r, hl, h1, _⟩ | ⟨c, r, hl, h1, h2⟩ | ⟨r, hl⟩
      all_goals rw [hl]; simp [*]
    | cons c r =>
      have hcm : c ∈ p := List.mem_of_mem_drop (i := k + 1) (by rw [hd]; exact List.mem_cons_self)
      have hc' := hp c hcm
      rw [List.cons_append]
      intro e2
      have e3 : c = 48 := by
        cases r <;> cases hq' : lay q <;> simp [hq'] at e2 <;> exact e2.1
      subst e3
      exact absurd hc' (by decide)
end Go.Proofs.YtkcgngpoegglnaaGreatDoor
end
/- The contract of the search for the next element of a layout, whole. -/
section
namespace Go.Proofs.YtkcgngpoegglnaaGreatDoor
open Go Go.RowKit
set_option linter.unusedVariables false
set_option linter.unusedSimpArgs false

theorem plain_ne {c : UInt8} (h : plainB c = true) (x : Int) (hx : x ∉ [(32 : Int), 58, 47, 37, 10, 9]) : ((c.toNat : Int) == x) = false := by
  rw [beq_eq_false_iff_ne]
  intro e
  unfold plainB at h
  simp only [Bool.or_eq_true, beq_iff_eq] at h
  apply hx
  rcases h with ((((rfl | rfl) | rfl) | rfl) | rfl) | rfl <;> subst e <;> decide

theorem round_pre (l : List UInt8) (n k : Nat) (t : Array Value) (w : World) (K : Act → World → Prop) (Q : Exit → Act → World → Prop) (hl : l.length ≤ 1000) (hn : n ≤ l.length) (hp : OkPre n l) (hk : k < n) (ht : ChunkT (bs l) k t)
    (hK : ∀ t' : Array Value, ChunkT (bs l) (k + 1) t' → K ⟨t', []⟩ w) : chunkBody.wp Tryz.prog (Exit.then K Q) ⟨t, []⟩ w := by
  have hs : (bs l).size ≤ 1000 := by rw [bs_size]; exact hl
  have hk' : k < (bs l).size := by rw [bs_size]; omega
  have hkl : k < l.length := by omega
  rcases hp k hkl hk with h | ⟨h, hz⟩
  · refine chunk_plain (bs l) k t w Q K (l[k].toNat : Int) hs hk' ht (by rw [bs_get]) (by omega) (by have := UInt8.toNat_lt l[k]; omega) ?_ ?_ ?_ ?_ ?_ ?_ ?_ ?_ ?_ ?_ ?_ ?_ ?_ ?_ ?_ hK
    all_goals exact plain_ne h _ (by decide)
  · have hd : l.drop k = 45 :: l.drop (k + 1) := by rw [← h]; exact List.drop_eq_getElem_cons hkl
    have h3 : ∀ lit : List UInt8, lit.take 3 = [45, 48, 55] → ((45 :: l.drop (k + 1)).take 3 ≠ lit.take 3) := by
      intro lit hlit e
      rw [hlit] at e
      simp only [List.take_succ_cons, List.cons.injEq, true_and] at e
      exact hz e
    refine chunk_dash (bs l) k t w Q K hs hk' ht (by rw [bs_get, h]; rfl) ?_ ?_ ?_ ?_ ?_ hK
    all_goals
      intro _
      rw [ext_eq0 hd]
      exact ne_of_take (by decide) (h3 _ rfl)

def chunkMu (n : Nat) (a : Act) (_ : World) : Nat := n - (intOf (a.tmps.getD 5 undef)).toNat

theorem chunkMu_at {s : ByteArray} {n k : Nat} {t : Array Value} {w : World} (h : ChunkT s k t) : chunkMu n ⟨t, []⟩ w = n - k := by
  have h5 := h.t5 (by rw [h.z]; decide)
  unfold chunkMu
  simp [Array.getD, h.z, h5, intOf]

def ChunkInv (l : List UInt8) (n : Nat) (w : World) (a : Act) (w' : World) : Prop := ∃ t k, a = ⟨t, []⟩ ∧ k ≤ n ∧ ChunkT (bs l) k t ∧ w' = w

theorem loop_el (l : List UInt8) (n : Nat) (el : El) (r : List UInt8) (t : Array Value) (w : World) (Q : Exit → Act → World → Prop) (hl : l.length ≤ 1000) (hn : n ≤ l.length) (hp : OkPre n l) (hd : l.drop n = el.bytes ++ r) (hf : el.Follow r) (hx : Std0x w) (ht : ChunkT (bs l) 0 t)
    (hQ : ∀ (t' : Array Value) (m : Nat), ChunkR (bs (l.take n)) el.std (bs r) t' → Q .ret ⟨t', []⟩ (w.drewN m)) : (Code.loop chunkBody).wp Tryz.prog Q ⟨t, []⟩ w := by
  refine wp_loop (ChunkInv l n w) (chunkMu n) ⟨t, 0, rfl, Nat.zero_le _, ht, rfl⟩ ?_
  rintro a w' ⟨t1, k, rfl, hk, ht1, rfl⟩
  by_cases hlt : k < n
  · refine round_pre l n k t1 w' _ Q hl hn hp hlt ht1 fun t' ht' => ⟨⟨t', k + 1, rfl, hlt, ht', rfl⟩, ?_⟩
    rw [chunkMu_at ht', chunkMu_at ht1]
    omega
  · have e : k = n := by omega
    subst e
    exact round_el l k el r t1 w' _ hl hd hf hx ht1 Q hQ

theorem loop_none (l : List UInt8) (t : Array Value) (w : World) (Q : Exit → Act → World → Prop) (hl : l.length ≤ 1000) (hp : OkPre l.length l) (ht : ChunkT (bs l) 0 t)
    (hQ : ∀ t' : Array Value, ChunkT (bs l) l.length t' → Q (.exit 0) ⟨t', []⟩ w) : (Code.loop chunkBody).wp Tryz.prog Q ⟨t, []⟩ w := by
  refine wp_loop (ChunkInv l l.length w) (chunkMu l.length) ⟨t, 0, rfl, Nat.zero_le _, ht, rfl⟩ ?_
  rintro a w' ⟨t1, k, rfl, hk, ht1, rfl⟩
  by_cases hlt : k < l.length
  · refine round_pre l l.length k t1 w' _ Q hl (Nat.le_refl _) hp hlt ht1 fun t' ht' => ⟨⟨t', k + 1, rfl, hlt, ht', rfl⟩, ?_⟩
    rw [chunkMu_at ht', chunkMu_at ht1]
    omega
  · have e : k = l.length := by omega
    subst e
    have hz := bs_size l
    refine chunk_end (bs l) t1 w' Q _ (by rw [hz]; exact hl) (by rw [hz]; exact ht1) fun t' ht' => hQ t' (by rw [hz] at ht'; exact ht')

theorem chunk_frame (s : ByteArray) : ∃ t : Array Value, #[Value.string s] ++ Array.replicate (Tryz.f115.ntmps - (#[Value.string s] : Array Value).size) undef = t ∧ t.size = 654 ∧ ∀ h : 0 < t.size, t[0]'h = .string s := by
  refine ⟨_, rfl, ?_, ?_⟩
  · simp [Tryz.ntmps115]
  · intro h
    simp

theorem chunk_results {p r : ByteArray} {std : Int} {t : Array Value} (h : ChunkR p std r t) (w : World) : (results Tryz.f115 t).run Tryz.prog w = .ok (.tuple #[.string p, .int .i64 std, .string r]) w := by
  have h2 := h.t2 (by rw [h.z]; decide)
  have h3 := h.t3 (by rw [h.z]; decide)
  have h4 := h.t4 (by rw [h.z]; decide)
  rw [results_tmp3 rfl]
  simp [Array.getD, h.z, h2, h3, h4]

set_option maxRecDepth 1000000 in
theorem chunk_any (l : List UInt8) (n : Nat) (el : El) (r : List UInt8) (w : World) (hl : l.length ≤ 1000) (hn : n ≤ l.length) (hp : OkPre n l) (hd : l.drop n = el.bytes ++ r) (hf : el.Follow r) (hx : Std0x w) :
    Calls Tryz.prog 115 #[.string (bs l)] w fun e w' => e = .returned (.tuple #[.string (bs (l.take n)), .int .i64 el.std, .string (bs r)]) ∧ ∃ m, w' = w.drewN m := by
  refine calls_of_wp Tryz.func115 rfl ?_
  obtain ⟨t, ht, z, t0⟩ := chunk_frame (bs l)
  rw [ht]
  clear ht
  repeat (first | go_guarded | go_step)
  refine loop_el l n el r _ w _ hl hn hp hd hf hx ⟨by simp [z], fun h => by simp [t0, z], fun h => by simp [z]⟩ ?_
  intro t' m h
  simp only [Exit.then, Exit.inBlock]
  exact bodyPost_ret (chunk_results h _) rfl ⟨rfl, m, rfl⟩

set_option maxRecDepth 1000000 in
theorem chunk_none (l : List UInt8) (w : World) (hl : l.length ≤ 1000) (hp : OkPre l.length l) :
    Calls Tryz.prog 115 #[.string (bs l)] w fun e w' => e = .returned (.tuple #[.string (bs l), .int .i64 0, .string (bs [])]) ∧ ∃ m, w' = w.drewN m := by
  refine calls_of_wp Tryz.func115 rfl ?_
  obtain ⟨t, ht, z, t0⟩ := chunk_frame (bs l)
  rw [ht]
  clear ht
  repeat (first | go_guarded | go_step)
  refine loop_none l _ w _ hl hp ⟨by simp [z], fun h => by simp [t0, z], fun h => by simp [z]⟩ ?_
  rintro t' ⟨z, t0, t5⟩
  repeat (first | go_guarded | go_step)
  exact bodyPost_ret (chunk_results (p := bs l) (std := 0) (r := bs []) ⟨by simp [z], fun h => by simp [z], fun h => by simp [z], fun h => by simp [z]; rfl⟩ _) rfl ⟨rfl, 0, (World.drewN_zero w).symm⟩
end Go.Proofs.YtkcgngpoegglnaaGreatDoor
end
