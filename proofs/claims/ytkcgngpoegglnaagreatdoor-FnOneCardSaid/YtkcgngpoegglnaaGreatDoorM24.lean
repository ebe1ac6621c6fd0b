/- The first package: the set of specifications, made anew. · The first package: the set of specifications that a format without options takes. -/
import Derived.Deep.MidRow
import Derived.Test.YtkcgngpoegglnaaGreatDoorM16
import Derived.LoopN
/- The first package: the set of specifications, made anew. -/
section
namespace Go.Proofs.YtkcgngpoegglnaaGreatDoor
open Go Go.RowKit
set_option linter.unusedVariables false
set_option linter.unusedSimpArgs false

/-- an empty set's cells. -/
def emptyC (mu : Bool) : Array Value := #[.bool mu] ++ Array.replicate 256 .nilIface

theorem zero_set : Tryz.zeroCells104.setIfInBounds 0 (.bool true) = emptyC true := by kernel_rfl

theorem empty_store (w : World) (S : Nat) (mu : Bool) (h : w.heap[S]? = some (.cells (emptyC mu) 104 (0, 0))) : StoreAt w S mu (fun _ => none) := by
  refine ⟨emptyC mu, h, by simp [emptyC], by simp [emptyC], fun j hj => ⟨.nilIface, ?_, rfl⟩⟩
  unfold emptyC
  rw [Array.getElem?_append_right (by simp), show 1 + j - (#[Value.bool mu] : Array Value).size = j by show 1 + j - 1 = j; omega, Array.getElem?_replicate, if_pos hj]

/-- what is stored where. -/
def specF (j : Nat) : Option Ap := specL.lookup (UInt8.ofNat j)

/-- the end of a call that makes the set. -/
def SetPost (w : World) (e : Ending) (w' : World) : Prop := ∃ S, e = .returned (.pointer (some ⟨S, 0, none⟩)) ∧ StoreAt w' S true specF ∧ Below w.heap.size w w' ∧ w.heap.size ≤ S

set_option maxRecDepth 100000 in
theorem newSet_any (w : World) : Calls Tryz.prog 78 #[] w (SetPost w) := by
  have hst : StoreAt (w.alloc (.cells (emptyC true) 104)) w.heap.size true (fun _ => none) := empty_store _ _ _ (new_block w _)
  rw [← zero_set] at hst
  have H := Lib.hid (populate_any w.heap.size _ hst)
  clear hst
  go_enter Tryz.func78, Tryz.ntmps78
  go_wp2_with (fail)
  refine H.out.mono ?_
  rintro e w1 ⟨rfl, hst, hg⟩
  dsimp only
  have HS := Lib.hid hst
  clear hst
  go_wp2
  go_ret
  exact ⟨_, rfl, HS.out, ⟨hg.os, hg.tape, hg.output, by have := hg.size; simp at this; omega, fun k hk => (hg.block k (by simp; omega) (by intro e; cases e; omega)).trans (Below.heap_alloc w _ k hk)⟩, Nat.le_refl _⟩

def fillStep (cs : Array Value) (p : Value × Nat) : Array Value := cs.setIfInBounds (1 + p.2) p.1
theorem fill_size (l : List (Value × Nat)) : ∀ cs : Array Value, (l.foldl fillStep cs).size = cs.size := by
  induction l with
  | nil => intro cs; rfl
  | cons p l ih => intro cs; rw [List.foldl_cons, ih]; simp [fillStep]
theorem fill_other (l : List Value) : ∀ (k i : Nat) (cs : Array Value), i < 1 + k → ((l.zipIdx k).foldl fillStep cs)[i]? = cs[i]? := by
  induction l with
  | nil => intro k i cs _; rfl
  | cons v l ih =>
    intro k i cs hi
    rw [List.zipIdx_cons, List.foldl_cons, ih (k + 1) i _ (by omega)]
    exact Array.getElem?_setIfInBounds_ne (by omega)
theorem fill_get (l : List Value) : ∀ (k j : Nat) (cs : Array Value), j < l.length → 1 + k + l.length ≤ cs.size → ((l.zipIdx k).foldl fillStep cs)[1 + k + j]? = l[j]? := by
  induction l with
  | nil => intro k j cs hj; simp at hj
  | cons v l ih =>
    intro k j cs hj hs
    rw [List.zipIdx_cons, List.foldl_cons]
    simp only [List.length_cons] at hj hs
    cases j with
    | zero =>
      rw [fill_other l (k + 1) _ _ (by omega)]
      simp only [fillStep, Nat.add_zero, List.getElem?_cons_zero]
      exact Array.getElem?_setIfInBounds_self_of_lt (by omega)
    | succ j =>
      have := ih (k + 1) j (fillStep cs (v, k)) (by omega) (by simp [fillStep]; omega)
      rw [show 1 + k + (j + 1) = 1 + (k + 1) + j by omega, this]
      simp

/-- the cells of the set that the package hands back. -/
noncomputable def finC (X : List Value) : Array Value := (X.zipIdx 0).foldl fillStep (emptyC false)

theorem finC_eq (X : List Value) : finC X = List.foldl (fun cs x => cs.setIfInBounds (1 + x.snd) x.fst) (Tryz.zeroCells104.setIfInBounds 0 (Value.bool false)) X.zipIdx := by
  have e : Tryz.zeroCells104.setIfInBounds 0 (Value.bool false) = emptyC false := by kernel_rfl
  rw [e]; rfl

/-- the end of a call that hands back the set. -/
def SpecPost (w : World) (e : Ending) (w' : World) : Prop := ∃ S, e = .returned (.iface 100 (.pointer (some ⟨S, 0, none⟩))) ∧ StoreAt w' S false specF ∧ Below w.heap.size w w' ∧ w.heap.size ≤ S

theorem fin_store {w : World} {S S2 : Nat} {C : Array Value} (h : StoreAt w S true specF) (hS : w.heap[S]? = some (.cells C 104 (0, 0))) (h2 : w.heap[S2]? = some (.cells (finC (C.toList.drop 1)) 104 (0, 0))) : StoreAt w S2 false specF := by
  obtain ⟨C', hC, hz, h0, hc⟩ := h.h
  obtain rfl : C = C' := by
    have := hS.symm.trans hC
    simpa using this
  have hl : (C.toList.drop 1).length = 256 := by simp; omega
  refine ⟨_, h2, by rw [finC, fill_size]; simp [emptyC], ?_, fun j hj => ?_⟩
  · rw [finC, fill_other _ 0 0 _ (by omega)]
    simp [emptyC]
  · obtain ⟨v, h1, h3⟩ := hc j hj
    refine ⟨v, ?_, h3⟩
    have := fill_get (C.toList.drop 1) 0 j (emptyC false) (by omega) (by rw [hl]; simp [emptyC])
    rw [finC]
    simp only [Nat.add_zero] at this
    rw [this, List.getElem?_drop]
    simpa using h1

set_option maxRecDepth 100000 in
theorem immutable_any (w : World) : Calls Tryz.prog 77 #[] w (SpecPost w) := by
  have hi102 : (Tryz.prog.info? 102).map (·.size) = some 256 := by kernel_rfl
  go_enter Tryz.func77, Tryz.ntmps77
  go_wp2_with (fail)
  refine (newSet_any _).mono ?_
  rintro e w1 ⟨S, rfl, hst, hbl, hge⟩
  dsimp only
  obtain ⟨C, hC, hz, h0, hc⟩ := hst.h
  have hfin := fun o => fin_store (w := w1.alloc o) (S2 := w1.heap.size) (hst.below ((Below.refl _ _).alloc (Nat.le_refl _) o)) ((Below.heap_alloc w1 o S hst.lt).trans hC)
  have HF := Lib.hid hfin
  have HBL := Lib.hid hbl
  have hl : (C.toList.drop 1).length = 256 := by simp; omega
  have hr : w1.rangeAt S 1 (C.toList.drop 1) := by
    intro j v hv
    rw [cell_of_row w1 S (1 + j) C 104 (0, 0) hC]
    rw [List.getElem?_drop] at hv
    simpa using hv
  generalize C.toList.drop 1 = X at *
  have HR := Lib.hid hr
  clear hst hbl hC h0 hc hfin hr
  go_wp2_with (first | (refine wpList_load_mid rfl 102 _ rfl S 1 ?_ X _ HR.out Tryz.underlying102 rfl (by rw [hl]; exact hi102) ?_; · go_simp))
  go_ret
  exact ⟨_, rfl, HF.out _ (by rw [finC_eq]; exact new_block w1 _), HBL.out.trans ((Below.refl _ _).alloc HBL.out.size _), HBL.out.size⟩
end Go.Proofs.YtkcgngpoegglnaaGreatDoor
end
/- The first package: the set of specifications that a format without options takes. -/
section
namespace Go.Proofs.YtkcgngpoegglnaaGreatDoor
open Go Go.RowKit
set_option linter.unusedVariables false
set_option linter.unusedSimpArgs false

theorem default_any (w : World) : Calls Tryz.prog 40 #[] w (SpecPost w) := by
  go_enter Tryz.func40, Tryz.ntmps40
  go_wp2_with (fail)
  refine (immutable_any _).mono ?_
  rintro e w1 ⟨S, rfl, hst, hbl, hge⟩
  dsimp only
  have HS := Lib.hid hst
  have HB := Lib.hid hbl
  clear hst hbl
  go_wp2
  go_ret
  exact ⟨S, rfl, HS.out, HB.out, hge⟩

/-- the end of the call that takes the set. -/
def GetPost (w : World) (e : Ending) (w' : World) : Prop := ∃ S, e = .returned (.tuple #[.iface 100 (.pointer (some ⟨S, 0, none⟩)), .nilIface]) ∧ StoreAt w' S false specF ∧ Below w.heap.size w w' ∧ w.heap.size ≤ S

set_option maxRecDepth 100000 in
set_option maxHeartbeats 2000000 in
theorem getSet_any (w : World) : Calls Tryz.prog 31 #[.slice none 0 0] w (GetPost w) := by
  go_enter Tryz.func31, Tryz.ntmps31
  go_wp2_with (fail)
  refine (default_any _).mono ?_
  rintro e w1 ⟨S, rfl, hst, hbl, hge⟩
  dsimp only
  have HS := Lib.hid hst
  have HB := Lib.hid hbl
  clear hst hbl
  go_wp2
  refine wp_loop_rounds 1 ?_
  rw [rounds_succ]
  go_wp2
  go_outline
  go_ret2
  exact ⟨S, rfl, HS.out, HB.out, hge⟩
end Go.Proofs.YtkcgngpoegglnaaGreatDoor
end
