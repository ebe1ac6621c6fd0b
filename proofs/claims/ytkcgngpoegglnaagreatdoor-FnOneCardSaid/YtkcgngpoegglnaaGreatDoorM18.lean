/- The first package: the list of appenders, joined as it grows. -/
import Derived.Deep.AppendLies
import Derived.Outline
import Derived.Stop.Asserts
import Derived.Test.YtkcgngpoegglnaaGreatDoorM17
import Derived.Test.YtkcgngpoegglnaaGreatDoorM14
namespace Go.Proofs.YtkcgngpoegglnaaGreatDoor
open Go Go.RowKit
set_option linter.unusedVariables false
set_option linter.unusedSimpArgs false

/-- what an appender writes. -/
inductive ApOK (T : STime) : Ap → List UInt8 → Prop where
  | std (ats : List Atom) (h : okAtoms ats) (h2 : no002 ats) : ApOK T (.std (lay ats)) (layText (absT T) T.nm T.off ats)
  | verb (s : List UInt8) (h : ∀ c ∈ s, okCh c = true) : ApOK T (.verb s) s
  | cent : ApOK T (.fn 178) (d2 (T.y / 100))
  | yday : ApOK T (.fn 181) (d3 (ydT T))
  | week : ApOK T (.fn 183) (d2 (iwT T))
  | wd0 : ApOK T (.wd 0) [dg (wdT T)]
  | wd1 : ApOK T (.wd 1) [dg ((wdT T + 6) % 7 + 1)]
  | wkS : ApOK T (.wk true) (d2 ((ydT T + 6 - wdT T) / 7))
  | wkM : ApOK T (.wk false) (d2 ((ydT T + 6 - (wdT T + 6) % 7) / 7))

/-- how long its text is. -/
def Ap.len : Ap → Nat
  | .std s => s.length
  | .verb s => s.length
  | _ => 0

/-- it may be joined. -/
def Ap.comb : Ap → Prop
  | .std _ => True
  | .verb _ => True
  | _ => False

/-- appenders in a row: values, what they are, what they write. -/
def Apps (w : World) (T : STime) : List Value → List Ap → List UInt8 → Prop
  | [], [], x => x = []
  | v :: vs, a :: l, x => ∃ x1 x2, x = x1 ++ x2 ∧ ApIs w v a ∧ ApOK T a x1 ∧ Apps w T vs l x2
  | _, _, _ => False

theorem Apps.keep {w w' : World} {T : STime} (hk : ∀ v a, ApIs w v a → ApIs w' v a) : ∀ (vs : List Value) (l : List Ap) (x : List UInt8), Apps w T vs l x → Apps w' T vs l x
  | [], [], _, h => h
  | v :: vs, a :: l, x, ⟨x1, x2, e, h1, h2, h3⟩ => ⟨x1, x2, e, hk _ _ h1, h2, Apps.keep hk vs l x2 h3⟩

theorem Apps.snoc {w : World} {T : STime} {v : Value} {a : Ap} {y : List UInt8} (h1 : ApIs w v a) (h2 : ApOK T a y) : ∀ (vs : List Value) (l : List Ap) (x : List UInt8), Apps w T vs l x → Apps w T (vs ++ [v]) (l ++ [a]) (x ++ y)
  | [], [], _, h => by
    have h' : _ = ([] : List UInt8) := h
    subst h'
    exact ⟨y, [], by simp, h1, h2, rfl⟩
  | u :: vs, b :: l, x, ⟨x1, x2, e, h3, h4, h5⟩ => ⟨x1, x2 ++ y, by rw [e, List.append_assoc], h3, h4, Apps.snoc h1 h2 vs l x2 h5⟩

theorem Apps.unsnoc {w : World} {T : STime} {v : Value} {a : Ap} : ∀ (vs : List Value) (l : List Ap) (x : List UInt8), Apps w T (vs ++ [v]) (l ++ [a]) x → ∃ x1 x2, x = x1 ++ x2 ∧ Apps w T vs l x1 ∧ ApIs w v a ∧ ApOK T a x2
  | [], [], x, h => by
    obtain ⟨x1, x2, e, h1, h2, h3⟩ := h
    have h' : x2 = [] := h3
    subst h'
    exact ⟨[], x1, by simpa using e, rfl, h1, h2⟩
  | [], b :: l, x, h => by
    obtain ⟨x1, x2, e, h1, h2, h3⟩ := h
    cases l <;> exact (h3 : False).elim
  | u :: vs, [], x, h => by
    obtain ⟨x1, x2, e, h1, h2, h3⟩ := h
    cases vs <;> exact (h3 : False).elim
  | u :: vs, b :: l, x, h => by
    obtain ⟨x1, x2, e, h1, h2, h3⟩ := h
    obtain ⟨y1, y2, e2, h4, h5, h6⟩ := Apps.unsnoc vs l x2 h3
    exact ⟨x1 ++ y1, y2, by rw [e, e2, List.append_assoc], ⟨x1, y1, rfl, h1, h2, h4⟩, h5, h6⟩

theorem Apps.lens {w : World} {T : STime} : ∀ (vs : List Value) (l : List Ap) (x : List UInt8), Apps w T vs l x → vs.length = l.length
  | [], [], _, _ => rfl
  | v :: vs, a :: l, x, ⟨x1, x2, e, h1, h2, h3⟩ => by simp [Apps.lens vs l x2 h3]

def apsLen (l : List Ap) : Nat := (l.map Ap.len).sum

/-- a block that holds no appender. -/
def NoAp (w : World) (g : Nat) : Prop := ∃ C e, w.heap[g]? = some (Obj.cells C e (0, 0)) ∧ e ≠ 247 ∧ e ≠ 249

theorem ApIs.grown {w w' : World} {v : Value} {a : Ap} {row : Option Nat} (h : ApIs w v a) (hg : w.grownBy w' row) (hr : ∀ g, row = some g → NoAp w g) : ApIs w' v a := by
  have k : ∀ (p : Nat) (C : Array Value) (e : TypeId), w.heap[p]? = some (Obj.cells C e (0, 0)) → (e = 247 ∨ e = 249) → w'.heap[p]? = w.heap[p]? := by
    intro p C e hp he
    refine hg.block p (lt_of_block hp) ?_
    intro e2
    obtain ⟨C2, e3, h2, h3, h4⟩ := hr p e2.symm
    rw [hp] at h2
    simp only [Option.some.injEq, Obj.cells.injEq] at h2
    obtain ⟨_, rfl, _⟩ := h2
    rcases he with he | he
    · exact h3 he
    · exact h4 he
  cases a with
  | std s => obtain ⟨p, e, hp⟩ := h; exact ⟨p, e, (k p _ _ hp (.inl rfl)).trans hp⟩
  | verb s => obtain ⟨p, e, hp⟩ := h; exact ⟨p, e, (k p _ _ hp (.inr rfl)).trans hp⟩
  | fn k => exact h
  | wd n => exact h
  | wk b => exact h
  | other => exact h

/-- the growing list. -/
structure CAt (w : World) (T : STime) (ca : Nat) (lv pv : Value) (pc : Bool) (xs : List Value) (aps : List Ap) (x : List UInt8) : Prop where
  at_ : w.heap[ca]? = some (.cells #[lv, pv, .bool pc] 74 (0, 0))
  own : w.ownsRow (ca + 1) 72 1 lv xs.length xs
  is : Apps w T xs aps x
  last : pc = true → ∃ ys y l a, xs = ys ++ [y] ∧ aps = l ++ [a] ∧ pv = y ∧ a.comb
  one : ∀ y ∈ xs, ∃ t u, y = .iface t u
  pv1 : pv = .nilIface ∨ ∃ t u, pv = .iface t u

theorem CAt.noAp {w : World} {T : STime} {ca : Nat} {lv pv : Value} {pc : Bool} {xs : List Value} {aps : List Ap} {x : List UInt8} (h : CAt w T ca lv pv pc xs aps x) : NoAp w ca ∧ ∀ g, lv.ownBlock = some g → NoAp w g := by
  refine ⟨⟨_, _, h.at_, by decide, by decide⟩, fun g hg => ?_⟩
  rcases h.own.2 with ⟨e, _⟩ | ⟨g', cap, cur, e, _, hh, _⟩
  · rw [e] at hg; cases hg
  · rw [e] at hg
    obtain rfl : g' = g := by simpa [Value.ownBlock] using hg
    exact ⟨_, _, hh, by decide, by decide⟩

theorem CAt.own_ne {w : World} {T : STime} {ca : Nat} {lv pv : Value} {pc : Bool} {xs : List Value} {aps : List Ap} {x : List UInt8} (h : CAt w T ca lv pv pc xs aps x) : lv.ownBlock ≠ some ca := by
  intro e
  have := h.own.lt ca e
  omega

theorem set_block {w : World} {ca : Nat} {C : Array Value} {t : TypeId} (h : w.heap[ca]? = some (.cells C t (0, 0))) (i : Nat) (v : Value) : (w.setCell ⟨ca, i, none⟩ v).heap[ca]? = some (.cells (C.setIfInBounds i v) t (0, 0)) := by
  rw [setCell_eq_setRow w ca i C t (0, 0) v h, setRow_heap w ca _ _ t (0, 0) h]

theorem grown_set (w : World) (ca i : Nat) (v : Value) : w.grownBy (w.setCell ⟨ca, i, none⟩ v) (some ca) :=
  ⟨rfl, rfl, rfl, by simp, fun k hk hne => Below.heap_setCell w ⟨ca, i, none⟩ v k (by intro e; exact hne (by rw [e]))⟩

theorem grown_trans {w w1 w2 : World} {r : Option Nat} (h : w.grownBy w1 r) (h2 : w1.grownBy w2 r) : w.grownBy w2 r :=
  ⟨h2.os.trans h.os, h2.tape.trans h.tape, h2.output.trans h.output, Nat.le_trans h.size h2.size, fun k hk hne => (h2.block k (Nat.lt_of_lt_of_le hk h.size) hne).trans (h.block k hk hne)⟩

theorem grown_below {w w1 : World} (r : Option Nat) (h : Below w.heap.size w w1) : w.grownBy w1 r := ⟨h.os, h.tape, h.output, h.size, fun k hk _ => h.block k hk⟩

theorem below_of_grown {w w1 : World} {r : Option Nat} {B : Nat} (h : w.grownBy w1 r) (hB : B ≤ w.heap.size) (hr : ∀ g, r = some g → B ≤ g) : Below B w w1 :=
  ⟨h.os, h.tape, h.output, h.size, fun k hk => h.block k (by omega) (by intro e; have := hr k e.symm; omega)⟩

theorem info72 : (Tryz.prog.info? 72).map (fun i => (i.zero, i.size, i.bytes)) = some (some .nilIface, 1, 16) := by kernel_rfl

theorem ta_comb_std (v : Value) (w : World) : (Instr.typeAssert (.iface 245 v) 72 266 true).run Tryz.prog w = .ok (.tuple #[.iface 245 v, .bool true]) w := by kernel_rfl
theorem ta_comb_verb (v : Value) (w : World) : (Instr.typeAssert (.iface 248 v) 72 266 true).run Tryz.prog w = .ok (.tuple #[.iface 248 v, .bool true]) w := by kernel_rfl
theorem ta_comb_fn (v : Value) (w : World) : (Instr.typeAssert (.iface 236 v) 72 266 true).run Tryz.prog w = .ok (.tuple #[.nilIface, .bool false]) w := run_typeAssert_lacksB Tryz.underlying266 (by kernel_rfl) (by kernel_rfl) v 72 w
theorem ta_comb_wd (v : Value) (w : World) : (Instr.typeAssert (.iface 243 v) 72 266 true).run Tryz.prog w = .ok (.tuple #[.nilIface, .bool false]) w := run_typeAssert_lacksB Tryz.underlying266 (by kernel_rfl) (by kernel_rfl) v 72 w
theorem ta_comb_wk (v : Value) (w : World) : (Instr.typeAssert (.iface 242 v) 72 266 true).run Tryz.prog w = .ok (.tuple #[.nilIface, .bool false]) w := run_typeAssert_lacksB Tryz.underlying266 (by kernel_rfl) (by kernel_rfl) v 72 w

/-- the end of a call that adds an appender. -/
def AddPost (w : World) (T : STime) (ca : Nat) (N : Nat) (x : List UInt8) (e : Ending) (w' : World) : Prop :=
  e = .returned (.tuple #[]) ∧ ∃ lv pv pc xs aps, CAt w' T ca lv pv pc xs aps x ∧ xs.length ≤ N ∧ Below ca w w'
end Go.Proofs.YtkcgngpoegglnaaGreatDoor
