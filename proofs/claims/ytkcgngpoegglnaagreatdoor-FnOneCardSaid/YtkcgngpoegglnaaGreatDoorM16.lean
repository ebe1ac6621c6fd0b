/- The first package: which function a method of an appender is. · The first package: the set of specifications. -/
import Derived.Test.YtkcgngpoegglnaaGreatDoorM05
import Derived.LoopTactic
import Derived.Outline
import Derived.Test.YtkcgngpoegglnaaGreatDoorM15
/- The first package: which function a method of an appender is. -/
section
namespace Go.Proofs.YtkcgngpoegglnaaGreatDoor
open Go Go.RowKit
set_option linter.unusedVariables false
set_option linter.unusedSimpArgs false

theorem load_247 (p : Nat) (s : ByteArray) (w : World) (h : w.cell? ⟨p, 0, none⟩ = some (.string s)) : (loadVar 247 ⟨p, 0, none⟩).run Tryz.prog w = .ok (.agg #[.string s]) w := by
  go_simp
theorem load_249 (p : Nat) (s : ByteArray) (w : World) (h : w.cell? ⟨p, 0, none⟩ = some (.string s)) : (loadVar 249 ⟨p, 0, none⟩).run Tryz.prog w = .ok (.agg #[.string s]) w := by
  go_simp

theorem chk_ok (ats : Array TypeId) (ty : TypeId) (a : Addr) (s m : ByteArray) (w : World) : (Builtin.ssaWrapNilChk_ ats ty #[.pointer (some a), .string s, .string m]).run Tryz.prog w = .ok (.pointer (some a)) w := rfl

theorem run_method_val (fuel : Nat) (t E : TypeId) (k : FuncId) (name : String) (a : Addr) (v : Value) (w : World) (hrow : (Tryz.prog.info? t).bind (fun i => (i.methods.find? (·.name == name)).map fun m => (m.path, m.func)) = some (#[], some (k, false)))
    (hu : Tryz.prog.underlying t = some (.pointer E)) (hl : (loadVar E a).run Tryz.prog w = .ok v w) : (method (fuel + 1) t (.pointer (some a)) name).run Tryz.prog w = .ok (k, v) w := by
  cases hi : Tryz.prog.info? t with
  | none => rw [hi] at hrow; cases hrow
  | some i =>
    rw [hi] at hrow
    simp only [Option.bind_some] at hrow
    rw [Option.map_eq_some_iff] at hrow
    obtain ⟨m, hm, he⟩ := hrow
    simp only [Prod.mk.injEq] at he
    unfold method
    simp [typeInfo, hi, hm, he.1, he.2, follow, receiverAt, run_underlying hu, Place.get, chk_ok, strVal, asAddr, hl]

/-- a method of a value that is kept as it is. -/
theorem run_method_own (fuel : Nat) (t : TypeId) (d : TypeDesc) (k : FuncId) (name : String) (v : Value) (w : World) (hrow : (Tryz.prog.info? t).bind (fun i => (i.methods.find? (·.name == name)).map fun m => (m.path, m.func)) = some (#[], some (k, false)))
    (hu : Tryz.prog.underlying t = some d) (hd : ∀ E, d ≠ .pointer E) : (method (fuel + 1) t v name).run Tryz.prog w = .ok (k, v) w := by
  cases hi : Tryz.prog.info? t with
  | none => rw [hi] at hrow; cases hrow
  | some i =>
    rw [hi] at hrow
    simp only [Option.bind_some] at hrow
    rw [Option.map_eq_some_iff] at hrow
    obtain ⟨m, hm, he⟩ := hrow
    simp only [Prod.mk.injEq] at he
    unfold method
    simp [typeInfo, hi, hm, he.1, he.2, follow, receiverAt, run_underlying hu, Place.get]
    first | done | (cases d <;> simp_all)

theorem r245_str : (Tryz.prog.info? 245).bind (fun i => (i.methods.find? (·.name == "strftimetexts/pub/lstrftime.str")).map fun m => (m.path, m.func)) = some (#[], some (228, false)) := by kernel_rfl
theorem r245_can : (Tryz.prog.info? 245).bind (fun i => (i.methods.find? (·.name == "strftimetexts/pub/lstrftime.canCombine")).map fun m => (m.path, m.func)) = some (#[], some (226, false)) := by kernel_rfl
theorem r245_comb : (Tryz.prog.info? 245).bind (fun i => (i.methods.find? (·.name == "strftimetexts/pub/lstrftime.combine")).map fun m => (m.path, m.func)) = some (#[], some (227, false)) := by kernel_rfl
theorem r245_app : (Tryz.prog.info? 245).bind (fun i => (i.methods.find? (·.name == "Append")).map fun m => (m.path, m.func)) = some (#[], some (225, false)) := by kernel_rfl
theorem r248_str : (Tryz.prog.info? 248).bind (fun i => (i.methods.find? (·.name == "strftimetexts/pub/lstrftime.str")).map fun m => (m.path, m.func)) = some (#[], some (232, false)) := by kernel_rfl
theorem r248_can : (Tryz.prog.info? 248).bind (fun i => (i.methods.find? (·.name == "strftimetexts/pub/lstrftime.canCombine")).map fun m => (m.path, m.func)) = some (#[], some (230, false)) := by kernel_rfl
theorem r248_comb : (Tryz.prog.info? 248).bind (fun i => (i.methods.find? (·.name == "strftimetexts/pub/lstrftime.combine")).map fun m => (m.path, m.func)) = some (#[], some (231, false)) := by kernel_rfl
theorem r248_app : (Tryz.prog.info? 248).bind (fun i => (i.methods.find? (·.name == "Append")).map fun m => (m.path, m.func)) = some (#[], some (229, false)) := by kernel_rfl
theorem r236_app : (Tryz.prog.info? 236).bind (fun i => (i.methods.find? (·.name == "Append")).map fun m => (m.path, m.func)) = some (#[], some (219, false)) := by kernel_rfl
theorem r243_app : (Tryz.prog.info? 243).bind (fun i => (i.methods.find? (·.name == "Append")).map fun m => (m.path, m.func)) = some (#[], some (224, false)) := by kernel_rfl
theorem r242_app : (Tryz.prog.info? 242).bind (fun i => (i.methods.find? (·.name == "Append")).map fun m => (m.path, m.func)) = some (#[], some (223, false)) := by kernel_rfl

theorem m_str_std (p : Nat) (s : ByteArray) (w : World) (h : w.cell? ⟨p, 0, none⟩ = some (.string s)) : (method 373 245 (.pointer (some ⟨p, 0, none⟩)) "strftimetexts/pub/lstrftime.str").run Tryz.prog w = .ok (228, .agg #[.string s]) w :=
  run_method_val 372 245 247 228 _ _ _ w r245_str Tryz.underlying245 (load_247 p s w h)
theorem m_can_std (p : Nat) (s : ByteArray) (w : World) (h : w.cell? ⟨p, 0, none⟩ = some (.string s)) : (method 373 245 (.pointer (some ⟨p, 0, none⟩)) "strftimetexts/pub/lstrftime.canCombine").run Tryz.prog w = .ok (226, .agg #[.string s]) w :=
  run_method_val 372 245 247 226 _ _ _ w r245_can Tryz.underlying245 (load_247 p s w h)
theorem m_comb_std (p : Nat) (s : ByteArray) (w : World) (h : w.cell? ⟨p, 0, none⟩ = some (.string s)) : (method 373 245 (.pointer (some ⟨p, 0, none⟩)) "strftimetexts/pub/lstrftime.combine").run Tryz.prog w = .ok (227, .agg #[.string s]) w :=
  run_method_val 372 245 247 227 _ _ _ w r245_comb Tryz.underlying245 (load_247 p s w h)
theorem m_app_std (p : Nat) (s : ByteArray) (w : World) (h : w.cell? ⟨p, 0, none⟩ = some (.string s)) : (method 373 245 (.pointer (some ⟨p, 0, none⟩)) "Append").run Tryz.prog w = .ok (225, .agg #[.string s]) w :=
  run_method_val 372 245 247 225 _ _ _ w r245_app Tryz.underlying245 (load_247 p s w h)
theorem m_str_verb (p : Nat) (s : ByteArray) (w : World) (h : w.cell? ⟨p, 0, none⟩ = some (.string s)) : (method 373 248 (.pointer (some ⟨p, 0, none⟩)) "strftimetexts/pub/lstrftime.str").run Tryz.prog w = .ok (232, .agg #[.string s]) w :=
  run_method_val 372 248 249 232 _ _ _ w r248_str Tryz.underlying248 (load_249 p s w h)
theorem m_can_verb (p : Nat) (s : ByteArray) (w : World) (h : w.cell? ⟨p, 0, none⟩ = some (.string s)) : (method 373 248 (.pointer (some ⟨p, 0, none⟩)) "strftimetexts/pub/lstrftime.canCombine").run Tryz.prog w = .ok (230, .agg #[.string s]) w :=
  run_method_val 372 248 249 230 _ _ _ w r248_can Tryz.underlying248 (load_249 p s w h)
theorem m_comb_verb (p : Nat) (s : ByteArray) (w : World) (h : w.cell? ⟨p, 0, none⟩ = some (.string s)) : (method 373 248 (.pointer (some ⟨p, 0, none⟩)) "strftimetexts/pub/lstrftime.combine").run Tryz.prog w = .ok (231, .agg #[.string s]) w :=
  run_method_val 372 248 249 231 _ _ _ w r248_comb Tryz.underlying248 (load_249 p s w h)
theorem m_app_verb (p : Nat) (s : ByteArray) (w : World) (h : w.cell? ⟨p, 0, none⟩ = some (.string s)) : (method 373 248 (.pointer (some ⟨p, 0, none⟩)) "Append").run Tryz.prog w = .ok (229, .agg #[.string s]) w :=
  run_method_val 372 248 249 229 _ _ _ w r248_app Tryz.underlying248 (load_249 p s w h)
theorem m_app_fn (v : Value) (w : World) : (method 373 236 v "Append").run Tryz.prog w = .ok (219, v) w :=
  run_method_own 372 236 _ 219 _ v w r236_app Tryz.underlying236 (by intro E h; cases h)
theorem m_app_wd (v : Value) (w : World) : (method 373 243 v "Append").run Tryz.prog w = .ok (224, v) w :=
  run_method_own 372 243 _ 224 _ v w r243_app Tryz.underlying243 (by intro E h; cases h)
theorem m_app_wk (v : Value) (w : World) : (method 373 242 v "Append").run Tryz.prog w = .ok (223, v) w :=
  run_method_own 372 242 _ 223 _ v w r242_app Tryz.underlying242 (by intro E h; cases h)
end Go.Proofs.YtkcgngpoegglnaaGreatDoor
end
/- The first package: the set of specifications. -/
section
namespace Go.Proofs.YtkcgngpoegglnaaGreatDoor
open Go Go.RowKit
set_option linter.unusedVariables false
set_option linter.unusedSimpArgs false

/-- a place of the store: empty, or an appender. -/
def StCell (w : World) (v : Value) : Option Ap → Prop
  | none => v = .nilIface
  | some a => ApIs w v a

/-- the set in block S. -/
structure StoreAt (w : World) (S : Nat) (mu : Bool) (f : Nat → Option Ap) : Prop where
  h : ∃ C : Array Value, w.heap[S]? = some (.cells C 104 (0, 0)) ∧ C.size = 257 ∧ C[0]? = some (.bool mu) ∧ ∀ j, j < 256 → ∃ v, C[1 + j]? = some v ∧ StCell w v (f j)

theorem ApIs.shape {w : World} {v : Value} {a : Ap} (h : ApIs w v a) : ∃ t x, v = .iface t x := by
  cases a with
  | std s => obtain ⟨p, e, _⟩ := h; exact ⟨_, _, e⟩
  | verb s => obtain ⟨p, e, _⟩ := h; exact ⟨_, _, e⟩
  | fn k => exact ⟨_, _, h⟩
  | wd n => exact ⟨_, _, h⟩
  | wk b => exact ⟨_, _, h⟩
  | other => obtain ⟨t, x, e, _⟩ := h; exact ⟨_, _, e⟩

theorem StoreAt.lt {w : World} {S : Nat} {mu : Bool} {f : Nat → Option Ap} (h : StoreAt w S mu f) : S < w.heap.size := by
  obtain ⟨C, h, _⟩ := h.h
  exact (Array.getElem?_eq_some_iff.1 h).1

theorem StoreAt.cell0 {w : World} {S : Nat} {mu : Bool} {f : Nat → Option Ap} (h : StoreAt w S mu f) : w.cell? ⟨S, 0, none⟩ = some (.bool mu) := by
  obtain ⟨C, h, _, h0, _⟩ := h.h
  rw [cell_of_row w S 0 C 104 (0, 0) h]
  exact h0

theorem StoreAt.cellAt {w : World} {S : Nat} {mu : Bool} {f : Nat → Option Ap} (h : StoreAt w S mu f) (j : Nat) (hj : j < 256) : ∃ v, w.cell? ⟨S, 1 + j, none⟩ = some v ∧ StCell w v (f j) := by
  obtain ⟨C, h, _, _, hc⟩ := h.h
  obtain ⟨v, h1, h2⟩ := hc j hj
  exact ⟨v, (cell_of_row w S (1 + j) C 104 (0, 0) h).trans h1, h2⟩

theorem StoreAt.free {w : World} {S : Nat} {mu : Bool} {f : Nat → Option Ap} (h : StoreAt w S mu f) (j : Nat) : w.frozen? ⟨S, j, none⟩ = false := by
  obtain ⟨C, h, _⟩ := h.h
  simp [World.frozen?, h]

theorem StCell.keep {w w' : World} (hk : ∀ v a, ApIs w v a → ApIs w' v a) {v : Value} {o : Option Ap} (h : StCell w v o) : StCell w' v o := by
  cases o with
  | none => exact h
  | some a => exact hk _ _ h

theorem ApIs.setCell {w : World} {S j : Nat} {x v : Value} {a : Ap} {C : Array Value} (hS : w.heap[S]? = some (.cells C 104 (0, 0))) (hz : C.size = 257) (h : ApIs w v a) : ApIs (w.setCell ⟨S, j, none⟩ x) v a :=
  ApIs.keep h fun p s t hp => Below.heap_setCell w ⟨S, j, none⟩ x p (by
    rintro rfl
    rw [hS] at hp
    simp only [Option.some.injEq, Obj.cells.injEq] at hp
    rw [hp.1] at hz
    simp at hz)

theorem StoreAt.set {w : World} {S : Nat} {f : Nat → Option Ap} (h : StoreAt w S true f) (j : Nat) (hj : j < 256) (x : Value) (a : Ap) (hx : ApIs w x a) : StoreAt (w.setCell ⟨S, 1 + j, none⟩ x) S true (fun k => if k = j then some a else f k) := by
  obtain ⟨C, hS, hz, h0, hc⟩ := h.h
  have hk : ∀ v b, ApIs w v b → ApIs (w.setCell ⟨S, 1 + j, none⟩ x) v b := fun v b hv => ApIs.setCell hS hz hv
  refine ⟨C.setIfInBounds (1 + j) x, ?_, by simpa using hz, ?_, fun k hk' => ?_⟩
  · rw [setCell_eq_setRow w S (1 + j) C 104 (0, 0) x hS, setRow_heap w S _ _ 104 (0, 0) hS]
  · rw [Array.getElem?_setIfInBounds_ne (by omega)]; exact h0
  · by_cases e : k = j
    · subst e
      refine ⟨x, Array.getElem?_setIfInBounds_self_of_lt (by omega), ?_⟩
      simp only [if_true]
      exact hk _ _ hx
    · obtain ⟨v, h1, h2⟩ := hc k hk'
      refine ⟨v, by rw [Array.getElem?_setIfInBounds_ne (by omega)]; exact h1, ?_⟩
      simp only [if_neg e]
      exact StCell.keep hk h2

theorem StoreAt.below {w w' : World} {S : Nat} {mu : Bool} {f : Nat → Option Ap} (h : StoreAt w S mu f) (hb : Below w.heap.size w w') : StoreAt w' S mu f := by
  have hlt := h.lt
  obtain ⟨C, hS, hz, h0, hc⟩ := h.h
  exact ⟨C, (hb.block S hlt).trans hS, hz, h0, fun j hj => by
    obtain ⟨v, h1, h2⟩ := hc j hj
    exact ⟨v, h1, StCell.keep (fun _ _ h => ApIs.below h hb) h2⟩⟩

set_option maxRecDepth 100000 in
theorem set_any (S c : Nat) (t : TypeId) (x old : Value) (w : World) (hc : c < 256) (c0 : w.cell? ⟨S, 0, none⟩ = some (.bool true)) (c1 : w.cell? ⟨S, 1 + c, none⟩ = some old) (f1 : w.frozen? ⟨S, 1 + c, none⟩ = false) :
    Calls Tryz.prog 212 #[.pointer (some ⟨S, 0, none⟩), .int .u8 c, .iface t x] w fun e w' => e = .returned .nilIface ∧ w.setCell ⟨S, 1 + c, none⟩ (.iface t x) = w' := by
  have h0 : (0 : Int) ≤ c := by omega
  have h1 : (c : Int) < 256 := by omega
  go_enter Tryz.func212, Tryz.ntmps212
  go_wp2
  go_ret
  exact ⟨rfl, rfl⟩

theorem MS.setCell {w : World} {M S j : Nat} {x : Value} {L : List (UInt8 × Ap)} {C : Array Value} (hS : w.heap[S]? = some (.cells C 104 (0, 0))) (hz : C.size = 257) (h : MS w M L) : MS (w.setCell ⟨S, j, none⟩ x) M L := by
  obtain ⟨es, c, hM, hr⟩ := h
  refine ⟨es, c, (Below.heap_setCell w ⟨S, j, none⟩ x M ?_).trans hM, MRows.keep (fun _ _ h => ApIs.setCell hS hz h) _ _ hr⟩
  rintro rfl
  rw [hS] at hM
  cases hM

theorem grownBy_setCell {w w1 : World} {S : Nat} (h : w.grownBy w1 (some S)) (j : Nat) (sp : Option Nat) (v : Value) : w.grownBy (w1.setCell ⟨S, j, sp⟩ v) (some S) :=
  ⟨h.os, h.tape, h.output, by simpa using h.size, fun k hk hne => (Below.heap_setCell w1 ⟨S, j, sp⟩ v k (by intro e; exact hne (by rw [e]))).trans (h.block k hk hne)⟩

/-- what holds at the head of a round. -/
def PopI (w : World) (S M : Nat) (t3 : Value) (wr : World) : Prop :=
  ∃ i : Nat, t3 = .int .i64 i ∧ i ≤ 256 ∧ StoreAt wr S true (fun j => if j < i then specL.lookup (UInt8.ofNat j) else none) ∧ MS wr M specL ∧ w.grownBy wr (some S)

theorem ofNat_toNat (i : Nat) (h : i < 256) : ((UInt8.ofNat i).toNat : Int) = i := by rw [UInt8.toNat_ofNat']; omega

theorem method_set (a : Addr) (w : World) : (method 274 100 (.pointer (some a)) "Set").run Tryz.prog w = .ok (212, .pointer (some a)) w := by kernel_rfl

set_option maxRecDepth 100000 in
set_option maxHeartbeats 4000000 in
theorem populate_any (S : Nat) (w : World) (h : StoreAt w S true (fun _ => none)) :
    Calls Tryz.prog 103 #[.iface 100 (.pointer (some ⟨S, 0, none⟩))] w fun e w' => e = .returned (.tuple #[]) ∧ StoreAt w' S true (fun j => specL.lookup (UInt8.ofNat j)) ∧ w.grownBy w' (some S) := by
  have hslt := h.lt
  have H := Lib.hid h
  clear h
  go_enter Tryz.func103, Tryz.ntmps103
  go_wp2_with (first | (go_at_call 122; refine (specs_any _).mono ?_; rintro e w1 ⟨M, rfl, hM⟩; have HM := Lib.hid hM; clear hM))
  go_loopw [3] (fun t3 wr => PopI w S M t3 wr) (fun t3 _ => 256 - (intOf t3).toNat)
  case atStart => exact ⟨0, rfl, by omega, by simpa using H.out.below HM.out.2.1, HM.out.1, ⟨HM.out.2.1.os, HM.out.2.1.tape, HM.out.2.1.output, HM.out.2.1.size, fun k hk _ => HM.out.2.1.block k hk⟩⟩
  case round =>
    obtain ⟨i, rfl, hi, hst, hms, hgr⟩ := hrel
    have HST := Lib.hid hst
    have HMS := Lib.hid hms
    have HG := Lib.hid hgr
    clear hst hms hgr
    by_cases hlt : i < 256
    · have hi0 : (0 : Int) ≤ i := by omega
      have hi1 : (i : Int) < 256 := by omega
      have hin := ofNat_toNat i hlt
      cases hl : specL.lookup (UInt8.ofNat i) with
      | none =>
        have hlk := lookup_none _ HMS.out hl
        rw [hin] at hlk
        have HL := Lib.hid hl
        clear hl hin
        go_wp2
        go_roundw
        case rel => exact ⟨i + 1, by go_num, by omega, by
          have e : (fun j => if j < i + 1 then specL.lookup (UInt8.ofNat j) else none) = (fun j => if j < i then specL.lookup (UInt8.ofNat j) else none) := by
            funext j
            by_cases e : j = i
            · subst e; simp [HL.out]
            · by_cases h2 : j < i
              · rw [if_pos (by omega), if_pos h2]
              · rw [if_neg (by omega), if_neg h2]
          rw [e]; exact HST.out, HMS.out, HG.out⟩
        case measure => simp [intOf]; omega
      | some a =>
        obtain ⟨v, hlk, hv⟩ := lookup_some _ a HMS.out hl
        rw [hin] at hlk
        obtain ⟨t, x, rfl⟩ := hv.shape
        obtain ⟨old, co, _⟩ := HST.out.cellAt i hlt
        have hc0 := HST.out.cell0
        have hf0 := HST.out.free (1 + i)
        have HL := Lib.hid hl
        have HV := Lib.hid hv
        have HC := Lib.hid (And.intro hc0 (And.intro co hf0))
        clear hl hin hv co hc0 hf0
        go_wp2_with (fail)
        refine (set_any S i t x old wr hlt HC.out.1 HC.out.2.1 HC.out.2.2).mono ?_
        rintro e w' ⟨rfl, rfl⟩
        dsimp only
        go_wp2
        go_roundw
        case rel => exact ⟨i + 1, by go_num, by omega, by
          have R := HST.out.set i hlt _ a HV.out
          have e : (fun j => if j < i + 1 then specL.lookup (UInt8.ofNat j) else none) = (fun k => if k = i then some a else if k < i then specL.lookup (UInt8.ofNat k) else none) := by
            funext j
            by_cases e : j = i
            · subst e; simp [HL.out]
            · by_cases h2 : j < i
              · rw [if_pos (by omega), if_neg e, if_pos h2]
              · rw [if_neg (by omega), if_neg e, if_neg h2]
          rw [e]; exact R, by
          obtain ⟨C, hS, hz, _⟩ := HST.out.h
          exact HMS.out.setCell hS hz, grownBy_setCell HG.out _ _ _⟩
        case measure => simp [intOf]; omega
    · have e : i = 256 := by omega
      subst e
      go_wp2
      go_end0
      exact ⟨rfl, by
        obtain ⟨C, h1, h2, h3, h4⟩ := HST.out.h
        exact ⟨C, h1, h2, h3, fun j hj => by
          obtain ⟨v, h5, h6⟩ := h4 j hj
          rw [if_pos hj] at h6
          exact ⟨v, h5, h6⟩⟩, HG.out⟩
end Go.Proofs.YtkcgngpoegglnaaGreatDoor
end
