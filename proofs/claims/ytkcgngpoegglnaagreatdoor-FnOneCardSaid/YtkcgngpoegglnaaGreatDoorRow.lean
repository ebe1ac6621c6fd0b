/- What the rows' listed variables give the walks; an argument that is a time of the thin package, opened; the world that shows the rows not empty. -/
import Derived.Test.YtkcgngpoegglnaaGreatDoorRows
import Derived.WalkKit
import Derived.ProofKit
import Derived.OpenShut
import Derived.ShutString
import Derived.ChangeOld
import Derived.Lay
import Derived.LaidOnce
import Derived.SevenTiedAt
import Derived.Lib.LaidU8
import Derived.Test.YtkcgngpoegglnaaGreatDoorM42
namespace Go.Proofs.YtkcgngpoegglnaaGreatDoor
open Go Go.ChangeShapes Go.WideShapes Go.ChangeAt Go.RowKit
open Go.ChangeMaps (open_string shut_string)
set_option linter.unusedVariables false

theorem own : ownKnob Tryz.prog.godebug = none := by kernel_rfl
theorem laidOut : laidOutB Tryz.prog = true := by kernel_rfl

/-- the listed variables. -/
abbrev laidL : List (String × DataW Unit) := Rows.fnFormatRow.laid

theorem tabIs_of_reads {W : World} {name : String} {k : IntKind} {zs : List Int} {g : Nat} {t e : TypeId} {n : Nat}
    (hg : Tryz.prog.globalNamed name = some g) (hty : (Tryz.prog.globals[g]?).map (·.type) = some t) (ht : Tryz.prog.underlying t = some (.array n e)) (he : Tryz.prog.underlying e = some (.int k)) (hce : Tryz.prog.cellsOf e = 1) (hct : Tryz.prog.cellsOf t = n)
    (h : Lib.VarReads Tryz.prog W name (Lib.tabData k zs)) : Lib.TabIs Tryz.prog W name k zs := by
  obtain ⟨g', t', cs, fuel, p, hg', ht', hvar, hd⟩ := h
  obtain rfl := Option.some.inj (hg.symm.trans hg')
  obtain rfl := Option.some.inj (hty.symm.trans ht')
  unfold Lib.TabIs
  rw [hvar, ← Lib.cells_of_tab ht he hce hct hd]

theorem gPow : Tryz.prog.globalNamed "internal/strconv.uint64pow10" = some 2 := by kernel_rfl
theorem gStd : Tryz.prog.globalNamed "strftimetexts/pub/gotime.std0x" = some 1 := by kernel_rfl

/-- what the listed variables give. -/
theorem base_of {W : World} (h : laidMetH Tryz.prog laidL W) : Base W := by
  rw [MakeChecks.laidMetH_plain _ _ _ (by kernel_rfl)] at h
  have hp : Lib.VarReads Tryz.prog W "internal/strconv.uint64pow10" (Lib.tabData .u64 Lib.pow10Tab) :=
    (show (Rows.laid_internal_strconv_uint64pow10 : DataW Unit) = Lib.tabData .u64 Lib.pow10Tab by kernel_rfl) ▸ Lib.laidMet.reads h (.tail _ (.tail _ (.head _)))
  have hs : Lib.VarReads Tryz.prog W "strftimetexts/pub/gotime.std0x" (Lib.tabData .i64 [260, 265, 1038, 1040, 1042, 276]) :=
    Lib.laidMet.reads h (.tail _ (.tail _ (.tail _ (.tail _ (.head _)))))
  have tp : Lib.TabIs Tryz.prog W "internal/strconv.uint64pow10" .u64 Lib.pow10Tab := tabIs_of_reads (t := 228) (e := 45) (n := 20) gPow (by kernel_rfl) (by kernel_rfl) (by kernel_rfl) (by kernel_rfl) (by kernel_rfl) hp
  have ts : Lib.TabIs Tryz.prog W "strftimetexts/pub/gotime.std0x" .i64 [260, 265, 1038, 1040, 1042, 276] := tabIs_of_reads (t := 219) (e := 3) (n := 6) gStd (by kernel_rfl) (by kernel_rfl) (by kernel_rfl) (by kernel_rfl) (by kernel_rfl) hs
  exact ⟨⟨ts.cell gStd 0 (by decide), ts.cell gStd 1 (by decide), ts.cell gStd 2 (by decide), ts.cell gStd 3 (by decide), ts.cell gStd 4 (by decide), ts.cell gStd 5 (by decide)⟩, tp⟩
/-- a field that is a number. -/
theorem fld_int {H : Type} {enc : TypeId × Value → H} {w : World} {base : Nat} {sp : Nat → Bool} {held : Bool} {n : Nat} {cs : List Value} {t : TypeId} {k : IntKind} {o : Nat} {x : Option (DataW H × List MemPlace)} (ht : Tryz.prog.underlying t = some (.int k)) (hc : Tryz.prog.cellsOf t = 1)
    (h : DataW.trod enc Tryz.prog w base sp held n t ((cs.drop o).take (Tryz.prog.cellsOf t)) = x) (hx : ∃ y, x = some y) : ∃ z, cs[o]? = some (.int k z) ∧ ∃ y, x = some (y, []) := by
  obtain ⟨y, rfl⟩ := hx
  obtain ⟨z, h1, h2, _⟩ := DataW.trod_int ht h
  rw [hc] at h1
  have := congrArg (·[0]?) h1
  simp at this
  exact ⟨z, this, y.1, by rw [h2]⟩

theorem fld_str {H : Type} {enc : TypeId × Value → H} {w : World} {base : Nat} {sp : Nat → Bool} {held : Bool} {n : Nat} {cs : List Value} {t : TypeId} {o : Nat} {x : Option (DataW H × List MemPlace)} (ht : Tryz.prog.underlying t = some .string) (hc : Tryz.prog.cellsOf t = 1)
    (h : DataW.trod enc Tryz.prog w base sp held n t ((cs.drop o).take (Tryz.prog.cellsOf t)) = x) (hx : ∃ y, x = some y) : ∃ s, cs[o]? = some (.string s) ∧ ∃ y, x = some (y, []) := by
  obtain ⟨y, rfl⟩ := hx
  obtain ⟨s, h1, h2, _⟩ := DataW.trod_string ht h
  rw [hc] at h1
  have := congrArg (·[0]?) h1
  simp at this
  exact ⟨s, this, y.1, by rw [h2]⟩

set_option maxRecDepth 100000 in
/-- an argument that is a time of the thin package. -/
theorem open_time {H : Type} {enc : TypeId × Value → H} {w : World} {base b0 : Nat} {sp : Nat → Bool} {held : Bool} {r : Reach} {v : Value} {d : DataW H} {ps : List MemPlace} (hval : Value.okWide Tryz.prog w r b0 23 v) (hd : DataW.Trod enc Tryz.prog w base sp held 23 v d ps) :
    ∃ T : STime, v = .agg (timeCells T) ∧ ps = [] := by
  obtain ⟨cs, rfl, hsz⟩ := okWide_struct Tryz.underlying23 hval
  obtain ⟨fuel, hf⟩ := hd
  obtain ⟨xs, n, _, hx, _, hlen, hall⟩ := DataW.trod_struct Tryz.underlying23 hf
  have c3 : Tryz.prog.cellsOf 3 = 1 := by kernel_rfl
  have c9 : Tryz.prog.cellsOf 9 = 1 := by kernel_rfl
  have c23 : Tryz.prog.cellsOf 23 = 9 := by kernel_rfl
  rw [c23] at hsz
  have hl9 : xs.length = 9 := hlen
  have ex : ∀ i, i < 9 → ∃ y, xs[i]? = some y := fun i hi => ⟨xs[i]'(by omega), List.getElem?_eq_getElem (by omega)⟩
  obtain ⟨z0, a0, y0, e0⟩ := fld_int Tryz.underlying3 c3 (hall 0 _ rfl) (ex 0 (by decide))
  obtain ⟨z1, a1, y1, e1⟩ := fld_int Tryz.underlying3 c3 (hall 1 _ rfl) (ex 1 (by decide))
  obtain ⟨z2, a2, y2, e2⟩ := fld_int Tryz.underlying3 c3 (hall 2 _ rfl) (ex 2 (by decide))
  obtain ⟨z3, a3, y3, e3⟩ := fld_int Tryz.underlying3 c3 (hall 3 _ rfl) (ex 3 (by decide))
  obtain ⟨z4, a4, y4, e4⟩ := fld_int Tryz.underlying3 c3 (hall 4 _ rfl) (ex 4 (by decide))
  obtain ⟨z5, a5, y5, e5⟩ := fld_int Tryz.underlying3 c3 (hall 5 _ rfl) (ex 5 (by decide))
  obtain ⟨z6, a6, y6, e6⟩ := fld_int Tryz.underlying3 c3 (hall 6 _ rfl) (ex 6 (by decide))
  obtain ⟨z7, a7, y7, e7⟩ := fld_int Tryz.underlying3 c3 (hall 7 _ rfl) (ex 7 (by decide))
  obtain ⟨z8, a8, y8, e8⟩ := fld_str Tryz.underlying9 c9 (hall 8 _ rfl) (ex 8 (by decide))
  simp only [Value.cells, Array.getElem?_toList] at a0 a1 a2 a3 a4 a5 a6 a7 a8
  refine ⟨⟨z0, z1, z2, z3, z4, z5, z6, z7, z8⟩, ?_, ?_⟩
  · congr 1
    apply Array.ext_getElem?
    intro i
    unfold timeCells
    match i with
    | 0 => exact a0
    | 1 => exact a1
    | 2 => exact a2
    | 3 => exact a3
    | 4 => exact a4
    | 5 => exact a5
    | 6 => exact a6
    | 7 => exact a7
    | 8 => exact a8
    | i + 9 => rw [Array.getElem?_eq_none (by omega), Array.getElem?_eq_none (by simp)]
  · have hps : ps = xs.flatMap (·.2) := congrArg Prod.snd hx
    rw [hps, List.flatMap_eq_nil_iff]
    intro x hxm
    obtain ⟨i, hi⟩ := List.mem_iff_getElem?.1 hxm
    have hi9 : i < 9 := by have := (List.getElem?_eq_some_iff.1 hi).1; omega
    match i, hi9, hi with
    | 0, _, hi => rw [e0] at hi; rw [← Option.some.inj hi]
    | 1, _, hi => rw [e1] at hi; rw [← Option.some.inj hi]
    | 2, _, hi => rw [e2] at hi; rw [← Option.some.inj hi]
    | 3, _, hi => rw [e3] at hi; rw [← Option.some.inj hi]
    | 4, _, hi => rw [e4] at hi; rw [← Option.some.inj hi]
    | 5, _, hi => rw [e5] at hi; rw [← Option.some.inj hi]
    | 6, _, hi => rw [e6] at hi; rw [← Option.some.inj hi]
    | 7, _, hi => rw [e7] at hi; rw [← Option.some.inj hi]
    | 8, _, hi => rw [e8] at hi; rw [← Option.some.inj hi]

/-- the time of the world that shows a row not empty. -/
abbrev time0 : Value := .agg #[.int .i64 0, .int .i64 0, .int .i64 0, .int .i64 0, .int .i64 0, .int .i64 0, .int .i64 0, .int .i64 0, .string ⟨#[]⟩]
end Go.Proofs.YtkcgngpoegglnaaGreatDoor
