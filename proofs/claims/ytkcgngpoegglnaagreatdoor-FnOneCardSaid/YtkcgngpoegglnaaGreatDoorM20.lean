/- The first package: an appender is added (printed by gen_comb4.py). -/
import Derived.Test.YtkcgngpoegglnaaGreatDoorM19
import Derived.Test.YtkcgngpoegglnaaGreatDoorM17
namespace Go.Proofs.YtkcgngpoegglnaaGreatDoor
open Go Go.RowKit
set_option linter.unusedVariables false
set_option linter.unusedSimpArgs false

theorem info72_of : ∃ i, Tryz.prog.info? 72 = some i ∧ i.zero = some .nilIface ∧ i.size = 1 ∧ i.bytes = 16 := by
  have := info72
  cases hi : Tryz.prog.info? 72 with
  | none => rw [hi] at this; cases this
  | some i => rw [hi] at this; simp at this; exact ⟨i, rfl, this⟩

/-- the end of a call that lays an appender behind the others. -/
def LaidPost (w : World) (T : STime) (ca : Nat) (xs : List Value) (aps : List Ap) (v : Value) (a : Ap) (pc : Bool) (x : List UInt8) (e : Ending) (w' : World) : Prop :=
  e = .returned (.tuple #[]) ∧ ∃ nv, CAt w' T ca nv v pc (xs ++ [v]) (aps ++ [a]) x ∧ Below ca w w'

section
variable {w : World} {T : STime} {ca : Nat} {lv pv : Value} {xs : List Value} {aps : List Ap} {x y : List UInt8}

set_option maxRecDepth 100000 in
theorem lay_fn_no (k : Nat) (h : CAt w T ca lv pv false xs aps x) (hok : ApOK T (.fn k) y) (hn : xs.length ≤ 1000) :
    Calls Tryz.prog 207 #[.pointer (some ⟨ca, 0, none⟩), .iface 236 (.func (.func k) #[] #[])] w (LaidPost w T ca xs aps (.iface 236 (.func (.func k) #[] #[])) (.fn k) false (x ++ y)) := by
  have hv : ApIs w (.iface 236 (.func (.func k) #[] #[])) (.fn k) := rfl
  obtain hpv := h.pv1
  obtain ⟨i, hi, hz0, hz1, hz2⟩ := info72_of
  have hlt := h.lt
  have hc0 := cell_of_row w ca 0 _ _ _ h.at_
  have hc1 := cell_of_row w ca 1 _ _ _ h.at_
  have hc2 := cell_of_row w ca 2 _ _ _ h.at_
  simp only [List.getElem?_toArray, List.getElem?_cons_zero, List.getElem?_cons_succ] at hc0 hc1 hc2
  have hf := fun j => frozen_of_row w ca j _ _ h.at_
  have hta := ta_comb_fn (.func (.func k) #[] #[])
  have hown := h.own
  have hne := h.own_ne
  have HH := Lib.hid h
  have HV := Lib.hid hv
  have HK := Lib.hid hok
  clear h hv hok
  skip
  rcases hpv with rfl | ⟨t1, u1, rfl⟩
  · go_enter Tryz.func207, Tryz.ntmps207
    go_wp2_with (at_builtin; refine wpList_append_lies _ rfl _ _ 70 rfl (ca + 1) 72 i .nilIface 1 16 Tryz.underlying70 hi hz0 hz1 hz2 rfl (by decide) _ _ _ rfl (hown.alloc _) ⟨w.heap.size, 0, none⟩ 1 1 [.iface 236 (.func (.func k) #[] #[])] rfl rfl (World.news_of_block (new_block _ _)) (fun u hu => by rw [List.mem_singleton] at hu; rw [hu]; rfl) (by decide) (by unfold maxLen; omega) (by omega) (by simp; omega) _ rfl ?_; intro g cap w2 hown2 hgrow hat hgl; have RR := Lib.hid (HH.out.appended HV.out HK.out ((Below.refl _ _).alloc (Nat.le_refl _) _) hgrow hown2); have e2 := (hgrow.block ca (by simp; omega) (fun e => hne e.symm)).trans ((Below.refl w.heap.size w).alloc (Nat.le_refl _) _ |>.block ca hlt |>.trans HH.out.at_); have hd0 := cell_of_row w2 ca 0 _ _ _ e2; have hd1 := cell_of_row w2 ca 1 _ _ _ e2; have hd2 := cell_of_row w2 ca 2 _ _ _ e2; simp only [List.getElem?_toArray, List.getElem?_cons_zero, List.getElem?_cons_succ] at hd0 hd1 hd2; have hdf := fun j => frozen_of_row w2 ca j _ _ e2; have hlt2 := lt_of_block e2; clear hown2 hgrow hat e2)
    exact bodyPost_end (results_none (by rfl) _ _ _) rfl ⟨rfl, _, RR.out.1, RR.out.2⟩
  · go_enter Tryz.func207, Tryz.ntmps207
    go_wp2_with (at_builtin; refine wpList_append_lies _ rfl _ _ 70 rfl (ca + 1) 72 i .nilIface 1 16 Tryz.underlying70 hi hz0 hz1 hz2 rfl (by decide) _ _ _ rfl (hown.alloc _) ⟨w.heap.size, 0, none⟩ 1 1 [.iface 236 (.func (.func k) #[] #[])] rfl rfl (World.news_of_block (new_block _ _)) (fun u hu => by rw [List.mem_singleton] at hu; rw [hu]; rfl) (by decide) (by unfold maxLen; omega) (by omega) (by simp; omega) _ rfl ?_; intro g cap w2 hown2 hgrow hat hgl; have RR := Lib.hid (HH.out.appended HV.out HK.out ((Below.refl _ _).alloc (Nat.le_refl _) _) hgrow hown2); have e2 := (hgrow.block ca (by simp; omega) (fun e => hne e.symm)).trans ((Below.refl w.heap.size w).alloc (Nat.le_refl _) _ |>.block ca hlt |>.trans HH.out.at_); have hd0 := cell_of_row w2 ca 0 _ _ _ e2; have hd1 := cell_of_row w2 ca 1 _ _ _ e2; have hd2 := cell_of_row w2 ca 2 _ _ _ e2; simp only [List.getElem?_toArray, List.getElem?_cons_zero, List.getElem?_cons_succ] at hd0 hd1 hd2; have hdf := fun j => frozen_of_row w2 ca j _ _ e2; have hlt2 := lt_of_block e2; clear hown2 hgrow hat e2)
    exact bodyPost_end (results_none (by rfl) _ _ _) rfl ⟨rfl, _, RR.out.1, RR.out.2⟩

set_option maxRecDepth 100000 in
theorem lay_fn_std (q : Nat) (k : Nat) (h : CAt w T ca lv (.iface 245 (.pointer (some ⟨q, 0, none⟩))) true xs aps x) (hok : ApOK T (.fn k) y) (hn : xs.length ≤ 1000) :
    Calls Tryz.prog 207 #[.pointer (some ⟨ca, 0, none⟩), .iface 236 (.func (.func k) #[] #[])] w (LaidPost w T ca xs aps (.iface 236 (.func (.func k) #[] #[])) (.fn k) false (x ++ y)) := by
  have hv : ApIs w (.iface 236 (.func (.func k) #[] #[])) (.fn k) := rfl
  obtain ⟨i, hi, hz0, hz1, hz2⟩ := info72_of
  have hlt := h.lt
  have hc0 := cell_of_row w ca 0 _ _ _ h.at_
  have hc1 := cell_of_row w ca 1 _ _ _ h.at_
  have hc2 := cell_of_row w ca 2 _ _ _ h.at_
  simp only [List.getElem?_toArray, List.getElem?_cons_zero, List.getElem?_cons_succ] at hc0 hc1 hc2
  have hf := fun j => frozen_of_row w ca j _ _ h.at_
  have hta := ta_comb_fn (.func (.func k) #[] #[])
  have htb := ta_comb_std (.pointer (some ⟨q, 0, none⟩))
  have hown := h.own
  have hne := h.own_ne
  have HH := Lib.hid h
  have HV := Lib.hid hv
  have HK := Lib.hid hok
  clear h hv hok
  skip
  go_enter Tryz.func207, Tryz.ntmps207
  go_wp2_with (at_builtin; refine wpList_append_lies _ rfl _ _ 70 rfl (ca + 1) 72 i .nilIface 1 16 Tryz.underlying70 hi hz0 hz1 hz2 rfl (by decide) _ _ _ rfl (hown.alloc _) ⟨w.heap.size, 0, none⟩ 1 1 [.iface 236 (.func (.func k) #[] #[])] rfl rfl (World.news_of_block (new_block _ _)) (fun u hu => by rw [List.mem_singleton] at hu; rw [hu]; rfl) (by decide) (by unfold maxLen; omega) (by omega) (by simp; omega) _ rfl ?_; intro g cap w2 hown2 hgrow hat hgl; have RR := Lib.hid (HH.out.appended HV.out HK.out ((Below.refl _ _).alloc (Nat.le_refl _) _) hgrow hown2); have e2 := (hgrow.block ca (by simp; omega) (fun e => hne e.symm)).trans ((Below.refl w.heap.size w).alloc (Nat.le_refl _) _ |>.block ca hlt |>.trans HH.out.at_); have hd0 := cell_of_row w2 ca 0 _ _ _ e2; have hd1 := cell_of_row w2 ca 1 _ _ _ e2; have hd2 := cell_of_row w2 ca 2 _ _ _ e2; simp only [List.getElem?_toArray, List.getElem?_cons_zero, List.getElem?_cons_succ] at hd0 hd1 hd2; have hdf := fun j => frozen_of_row w2 ca j _ _ e2; have hlt2 := lt_of_block e2; clear hown2 hgrow hat e2)
  exact bodyPost_end (results_none (by rfl) _ _ _) rfl ⟨rfl, _, RR.out.1, RR.out.2⟩

set_option maxRecDepth 100000 in
theorem lay_fn_verb (q : Nat) (k : Nat) (h : CAt w T ca lv (.iface 248 (.pointer (some ⟨q, 0, none⟩))) true xs aps x) (hok : ApOK T (.fn k) y) (hn : xs.length ≤ 1000) :
    Calls Tryz.prog 207 #[.pointer (some ⟨ca, 0, none⟩), .iface 236 (.func (.func k) #[] #[])] w (LaidPost w T ca xs aps (.iface 236 (.func (.func k) #[] #[])) (.fn k) false (x ++ y)) := by
  have hv : ApIs w (.iface 236 (.func (.func k) #[] #[])) (.fn k) := rfl
  obtain ⟨i, hi, hz0, hz1, hz2⟩ := info72_of
  have hlt := h.lt
  have hc0 := cell_of_row w ca 0 _ _ _ h.at_
  have hc1 := cell_of_row w ca 1 _ _ _ h.at_
  have hc2 := cell_of_row w ca 2 _ _ _ h.at_
  simp only [List.getElem?_toArray, List.getElem?_cons_zero, List.getElem?_cons_succ] at hc0 hc1 hc2
  have hf := fun j => frozen_of_row w ca j _ _ h.at_
  have hta := ta_comb_fn (.func (.func k) #[] #[])
  have htb := ta_comb_verb (.pointer (some ⟨q, 0, none⟩))
  have hown := h.own
  have hne := h.own_ne
  have HH := Lib.hid h
  have HV := Lib.hid hv
  have HK := Lib.hid hok
  clear h hv hok
  skip
  go_enter Tryz.func207, Tryz.ntmps207
  go_wp2_with (at_builtin; refine wpList_append_lies _ rfl _ _ 70 rfl (ca + 1) 72 i .nilIface 1 16 Tryz.underlying70 hi hz0 hz1 hz2 rfl (by decide) _ _ _ rfl (hown.alloc _) ⟨w.heap.size, 0, none⟩ 1 1 [.iface 236 (.func (.func k) #[] #[])] rfl rfl (World.news_of_block (new_block _ _)) (fun u hu => by rw [List.mem_singleton] at hu; rw [hu]; rfl) (by decide) (by unfold maxLen; omega) (by omega) (by simp; omega) _ rfl ?_; intro g cap w2 hown2 hgrow hat hgl; have RR := Lib.hid (HH.out.appended HV.out HK.out ((Below.refl _ _).alloc (Nat.le_refl _) _) hgrow hown2); have e2 := (hgrow.block ca (by simp; omega) (fun e => hne e.symm)).trans ((Below.refl w.heap.size w).alloc (Nat.le_refl _) _ |>.block ca hlt |>.trans HH.out.at_); have hd0 := cell_of_row w2 ca 0 _ _ _ e2; have hd1 := cell_of_row w2 ca 1 _ _ _ e2; have hd2 := cell_of_row w2 ca 2 _ _ _ e2; simp only [List.getElem?_toArray, List.getElem?_cons_zero, List.getElem?_cons_succ] at hd0 hd1 hd2; have hdf := fun j => frozen_of_row w2 ca j _ _ e2; have hlt2 := lt_of_block e2; clear hown2 hgrow hat e2)
  exact bodyPost_end (results_none (by rfl) _ _ _) rfl ⟨rfl, _, RR.out.1, RR.out.2⟩

set_option maxRecDepth 100000 in
theorem lay_wd_no (n : Int) (h : CAt w T ca lv pv false xs aps x) (hok : ApOK T (.wd n) y) (hn : xs.length ≤ 1000) :
    Calls Tryz.prog 207 #[.pointer (some ⟨ca, 0, none⟩), .iface 243 (.int .i64 n)] w (LaidPost w T ca xs aps (.iface 243 (.int .i64 n)) (.wd n) false (x ++ y)) := by
  have hv : ApIs w (.iface 243 (.int .i64 n)) (.wd n) := rfl
  obtain hpv := h.pv1
  obtain ⟨i, hi, hz0, hz1, hz2⟩ := info72_of
  have hlt := h.lt
  have hc0 := cell_of_row w ca 0 _ _ _ h.at_
  have hc1 := cell_of_row w ca 1 _ _ _ h.at_
  have hc2 := cell_of_row w ca 2 _ _ _ h.at_
  simp only [List.getElem?_toArray, List.getElem?_cons_zero, List.getElem?_cons_succ] at hc0 hc1 hc2
  have hf := fun j => frozen_of_row w ca j _ _ h.at_
  have hta := ta_comb_wd (.int .i64 n)
  have hown := h.own
  have hne := h.own_ne
  have HH := Lib.hid h
  have HV := Lib.hid hv
  have HK := Lib.hid hok
  clear h hv hok
  skip
  rcases hpv with rfl | ⟨t1, u1, rfl⟩
  · go_enter Tryz.func207, Tryz.ntmps207
    go_wp2_with (at_builtin; refine wpList_append_lies _ rfl _ _ 70 rfl (ca + 1) 72 i .nilIface 1 16 Tryz.underlying70 hi hz0 hz1 hz2 rfl (by decide) _ _ _ rfl (hown.alloc _) ⟨w.heap.size, 0, none⟩ 1 1 [.iface 243 (.int .i64 n)] rfl rfl (World.news_of_block (new_block _ _)) (fun u hu => by rw [List.mem_singleton] at hu; rw [hu]; rfl) (by decide) (by unfold maxLen; omega) (by omega) (by simp; omega) _ rfl ?_; intro g cap w2 hown2 hgrow hat hgl; have RR := Lib.hid (HH.out.appended HV.out HK.out ((Below.refl _ _).alloc (Nat.le_refl _) _) hgrow hown2); have e2 := (hgrow.block ca (by simp; omega) (fun e => hne e.symm)).trans ((Below.refl w.heap.size w).alloc (Nat.le_refl _) _ |>.block ca hlt |>.trans HH.out.at_); have hd0 := cell_of_row w2 ca 0 _ _ _ e2; have hd1 := cell_of_row w2 ca 1 _ _ _ e2; have hd2 := cell_of_row w2 ca 2 _ _ _ e2; simp only [List.getElem?_toArray, List.getElem?_cons_zero, List.getElem?_cons_succ] at hd0 hd1 hd2; have hdf := fun j => frozen_of_row w2 ca j _ _ e2; have hlt2 := lt_of_block e2; clear hown2 hgrow hat e2)
    exact bodyPost_end (results_none (by rfl) _ _ _) rfl ⟨rfl, _, RR.out.1, RR.out.2⟩
  · go_enter Tryz.func207, Tryz.ntmps207
    go_wp2_with (at_builtin; refine wpList_append_lies _ rfl _ _ 70 rfl (ca + 1) 72 i .nilIface 1 16 Tryz.underlying70 hi hz0 hz1 hz2 rfl (by decide) _ _ _ rfl (hown.alloc _) ⟨w.heap.size, 0, none⟩ 1 1 [.iface 243 (.int .i64 n)] rfl rfl (World.news_of_block (new_block _ _)) (fun u hu => by rw [List.mem_singleton] at hu; rw [hu]; rfl) (by decide) (by unfold maxLen; omega) (by omega) (by simp; omega) _ rfl ?_; intro g cap w2 hown2 hgrow hat hgl; have RR := Lib.hid (HH.out.appended HV.out HK.out ((Below.refl _ _).alloc (Nat.le_refl _) _) hgrow hown2); have e2 := (hgrow.block ca (by simp; omega) (fun e => hne e.symm)).trans ((Below.refl w.heap.size w).alloc (Nat.le_refl _) _ |>.block ca hlt |>.trans HH.out.at_); have hd0 := cell_of_row w2 ca 0 _ _ _ e2; have hd1 := cell_of_row w2 ca 1 _ _ _ e2; have hd2 := cell_of_row w2 ca 2 _ _ _ e2; simp only [List.getElem?_toArray, List.getElem?_cons_zero, List.getElem?_cons_succ] at hd0 hd1 hd2; have hdf := fun j => frozen_of_row w2 ca j _ _ e2; have hlt2 := lt_of_block e2; clear hown2 hgrow hat e2)
    exact bodyPost_end (results_none (by rfl) _ _ _) rfl ⟨rfl, _, RR.out.1, RR.out.2⟩

set_option maxRecDepth 100000 in
theorem lay_wd_std (q : Nat) (n : Int) (h : CAt w T ca lv (.iface 245 (.pointer (some ⟨q, 0, none⟩))) true xs aps x) (hok : ApOK T (.wd n) y) (hn : xs.length ≤ 1000) :
    Calls Tryz.prog 207 #[.pointer (some ⟨ca, 0, none⟩), .iface 243 (.int .i64 n)] w (LaidPost w T ca xs aps (.iface 243 (.int .i64 n)) (.wd n) false (x ++ y)) := by
  have hv : ApIs w (.iface 243 (.int .i64 n)) (.wd n) := rfl
  obtain ⟨i, hi, hz0, hz1, hz2⟩ := info72_of
  have hlt := h.lt
  have hc0 := cell_of_row w ca 0 _ _ _ h.at_
  have hc1 := cell_of_row w ca 1 _ _ _ h.at_
  have hc2 := cell_of_row w ca 2 _ _ _ h.at_
  simp only [List.getElem?_toArray, List.getElem?_cons_zero, List.getElem?_cons_succ] at hc0 hc1 hc2
  have hf := fun j => frozen_of_row w ca j _ _ h.at_
  have hta := ta_comb_wd (.int .i64 n)
  have htb := ta_comb_std (.pointer (some ⟨q, 0, none⟩))
  have hown := h.own
  have hne := h.own_ne
  have HH := Lib.hid h
  have HV := Lib.hid hv
  have HK := Lib.hid hok
  clear h hv hok
  skip
  go_enter Tryz.func207, Tryz.ntmps207
  go_wp2_with (at_builtin; refine wpList_append_lies _ rfl _ _ 70 rfl (ca + 1) 72 i .nilIface 1 16 Tryz.underlying70 hi hz0 hz1 hz2 rfl (by decide) _ _ _ rfl (hown.alloc _) ⟨w.heap.size, 0, none⟩ 1 1 [.iface 243 (.int .i64 n)] rfl rfl (World.news_of_block (new_block _ _)) (fun u hu => by rw [List.mem_singleton] at hu; rw [hu]; rfl) (by decide) (by unfold maxLen; omega) (by omega) (by simp; omega) _ rfl ?_; intro g cap w2 hown2 hgrow hat hgl; have RR := Lib.hid (HH.out.appended HV.out HK.out ((Below.refl _ _).alloc (Nat.le_refl _) _) hgrow hown2); have e2 := (hgrow.block ca (by simp; omega) (fun e => hne e.symm)).trans ((Below.refl w.heap.size w).alloc (Nat.le_refl _) _ |>.block ca hlt |>.trans HH.out.at_); have hd0 := cell_of_row w2 ca 0 _ _ _ e2; have hd1 := cell_of_row w2 ca 1 _ _ _ e2; have hd2 := cell_of_row w2 ca 2 _ _ _ e2; simp only [List.getElem?_toArray, List.getElem?_cons_zero, List.getElem?_cons_succ] at hd0 hd1 hd2; have hdf := fun j => frozen_of_row w2 ca j _ _ e2; have hlt2 := lt_of_block e2; clear hown2 hgrow hat e2)
  exact bodyPost_end (results_none (by rfl) _ _ _) rfl ⟨rfl, _, RR.out.1, RR.out.2⟩

set_option maxRecDepth 100000 in
theorem lay_wd_verb (q : Nat) (n : Int) (h : CAt w T ca lv (.iface 248 (.pointer (some ⟨q, 0, none⟩))) true xs aps x) (hok : ApOK T (.wd n) y) (hn : xs.length ≤ 1000) :
    Calls Tryz.prog 207 #[.pointer (some ⟨ca, 0, none⟩), .iface 243 (.int .i64 n)] w (LaidPost w T ca xs aps (.iface 243 (.int .i64 n)) (.wd n) false (x ++ y)) := by
  have hv : ApIs w (.iface 243 (.int .i64 n)) (.wd n) := rfl
  obtain ⟨i, hi, hz0, hz1, hz2⟩ := info72_of
  have hlt := h.lt
  have hc0 := cell_of_row w ca 0 _ _ _ h.at_
  have hc1 := cell_of_row w ca 1 _ _ _ h.at_
  have hc2 := cell_of_row w ca 2 _ _ _ h.at_
  simp only [List.getElem?_toArray, List.getElem?_cons_zero, List.getElem?_cons_succ] at hc0 hc1 hc2
  have hf := fun j => frozen_of_row w ca j _ _ h.at_
  have hta := ta_comb_wd (.int .i64 n)
  have htb := ta_comb_verb (.pointer (some ⟨q, 0, none⟩))
  have hown := h.own
  have hne := h.own_ne
  have HH := Lib.hid h
  have HV := Lib.hid hv
  have HK := Lib.hid hok
  clear h hv hok
  skip
  go_enter Tryz.func207, Tryz.ntmps207
  go_wp2_with (at_builtin; refine wpList_append_lies _ rfl _ _ 70 rfl (ca + 1) 72 i .nilIface 1 16 Tryz.underlying70 hi hz0 hz1 hz2 rfl (by decide) _ _ _ rfl (hown.alloc _) ⟨w.heap.size, 0, none⟩ 1 1 [.iface 243 (.int .i64 n)] rfl rfl (World.news_of_block (new_block _ _)) (fun u hu => by rw [List.mem_singleton] at hu; rw [hu]; rfl) (by decide) (by unfold maxLen; omega) (by omega) (by simp; omega) _ rfl ?_; intro g cap w2 hown2 hgrow hat hgl; have RR := Lib.hid (HH.out.appended HV.out HK.out ((Below.refl _ _).alloc (Nat.le_refl _) _) hgrow hown2); have e2 := (hgrow.block ca (by simp; omega) (fun e => hne e.symm)).trans ((Below.refl w.heap.size w).alloc (Nat.le_refl _) _ |>.block ca hlt |>.trans HH.out.at_); have hd0 := cell_of_row w2 ca 0 _ _ _ e2; have hd1 := cell_of_row w2 ca 1 _ _ _ e2; have hd2 := cell_of_row w2 ca 2 _ _ _ e2; simp only [List.getElem?_toArray, List.getElem?_cons_zero, List.getElem?_cons_succ] at hd0 hd1 hd2; have hdf := fun j => frozen_of_row w2 ca j _ _ e2; have hlt2 := lt_of_block e2; clear hown2 hgrow hat e2)
  exact bodyPost_end (results_none (by rfl) _ _ _) rfl ⟨rfl, _, RR.out.1, RR.out.2⟩

set_option maxRecDepth 100000 in
theorem lay_wk_no (b : Bool) (h : CAt w T ca lv pv false xs aps x) (hok : ApOK T (.wk b) y) (hn : xs.length ≤ 1000) :
    Calls Tryz.prog 207 #[.pointer (some ⟨ca, 0, none⟩), .iface 242 (.bool b)] w (LaidPost w T ca xs aps (.iface 242 (.bool b)) (.wk b) false (x ++ y)) := by
  have hv : ApIs w (.iface 242 (.bool b)) (.wk b) := rfl
  obtain hpv := h.pv1
  obtain ⟨i, hi, hz0, hz1, hz2⟩ := info72_of
  have hlt := h.lt
  have hc0 := cell_of_row w ca 0 _ _ _ h.at_
  have hc1 := cell_of_row w ca 1 _ _ _ h.at_
  have hc2 := cell_of_row w ca 2 _ _ _ h.at_
  simp only [List.getElem?_toArray, List.getElem?_cons_zero, List.getElem?_cons_succ] at hc0 hc1 hc2
  have hf := fun j => frozen_of_row w ca j _ _ h.at_
  have hta := ta_comb_wk (.bool b)
  have hown := h.own
  have hne := h.own_ne
  have HH := Lib.hid h
  have HV := Lib.hid hv
  have HK := Lib.hid hok
  clear h hv hok
  skip
  rcases hpv with rfl | ⟨t1, u1, rfl⟩
  · go_enter Tryz.func207, Tryz.ntmps207
    go_wp2_with (at_builtin; refine wpList_append_lies _ rfl _ _ 70 rfl (ca + 1) 72 i .nilIface 1 16 Tryz.underlying70 hi hz0 hz1 hz2 rfl (by decide) _ _ _ rfl (hown.alloc _) ⟨w.heap.size, 0, none⟩ 1 1 [.iface 242 (.bool b)] rfl rfl (World.news_of_block (new_block _ _)) (fun u hu => by rw [List.mem_singleton] at hu; rw [hu]; rfl) (by decide) (by unfold maxLen; omega) (by omega) (by simp; omega) _ rfl ?_; intro g cap w2 hown2 hgrow hat hgl; have RR := Lib.hid (HH.out.appended HV.out HK.out ((Below.refl _ _).alloc (Nat.le_refl _) _) hgrow hown2); have e2 := (hgrow.block ca (by simp; omega) (fun e => hne e.symm)).trans ((Below.refl w.heap.size w).alloc (Nat.le_refl _) _ |>.block ca hlt |>.trans HH.out.at_); have hd0 := cell_of_row w2 ca 0 _ _ _ e2; have hd1 := cell_of_row w2 ca 1 _ _ _ e2; have hd2 := cell_of_row w2 ca 2 _ _ _ e2; simp only [List.getElem?_toArray, List.getElem?_cons_zero, List.getElem?_cons_succ] at hd0 hd1 hd2; have hdf := fun j => frozen_of_row w2 ca j _ _ e2; have hlt2 := lt_of_block e2; clear hown2 hgrow hat e2)
    exact bodyPost_end (results_none (by rfl) _ _ _) rfl ⟨rfl, _, RR.out.1, RR.out.2⟩
  · go_enter Tryz.func207, Tryz.ntmps207
    go_wp2_with (at_builtin; refine wpList_append_lies _ rfl _ _ 70 rfl (ca + 1) 72 i .nilIface 1 16 Tryz.underlying70 hi hz0 hz1 hz2 rfl (by decide) _ _ _ rfl (hown.alloc _) ⟨w.heap.size, 0, none⟩ 1 1 [.iface 242 (.bool b)] rfl rfl (World.news_of_block (new_block _ _)) (fun u hu => by rw [List.mem_singleton] at hu; rw [hu]; rfl) (by decide) (by unfold maxLen; omega) (by omega) (by simp; omega) _ rfl ?_; intro g cap w2 hown2 hgrow hat hgl; have RR := Lib.hid (HH.out.appended HV.out HK.out ((Below.refl _ _).alloc (Nat.le_refl _) _) hgrow hown2); have e2 := (hgrow.block ca (by simp; omega) (fun e => hne e.symm)).trans ((Below.refl w.heap.size w).alloc (Nat.le_refl _) _ |>.block ca hlt |>.trans HH.out.at_); have hd0 := cell_of_row w2 ca 0 _ _ _ e2; have hd1 := cell_of_row w2 ca 1 _ _ _ e2; have hd2 := cell_of_row w2 ca 2 _ _ _ e2; simp only [List.getElem?_toArray, List.getElem?_cons_zero, List.getElem?_cons_succ] at hd0 hd1 hd2; have hdf := fun j => frozen_of_row w2 ca j _ _ e2; have hlt2 := lt_of_block e2; clear hown2 hgrow hat e2)
    exact bodyPost_end (results_none (by rfl) _ _ _) rfl ⟨rfl, _, RR.out.1, RR.out.2⟩

set_option maxRecDepth 100000 in
theorem lay_wk_std (q : Nat) (b : Bool) (h : CAt w T ca lv (.iface 245 (.pointer (some ⟨q, 0, none⟩))) true xs aps x) (hok : ApOK T (.wk b) y) (hn : xs.length ≤ 1000) :
    Calls Tryz.prog 207 #[.pointer (some ⟨ca, 0, none⟩), .iface 242 (.bool b)] w (LaidPost w T ca xs aps (.iface 242 (.bool b)) (.wk b) false (x ++ y)) := by
  have hv : ApIs w (.iface 242 (.bool b)) (.wk b) := rfl
  obtain ⟨i, hi, hz0, hz1, hz2⟩ := info72_of
  have hlt := h.lt
  have hc0 := cell_of_row w ca 0 _ _ _ h.at_
  have hc1 := cell_of_row w ca 1 _ _ _ h.at_
  have hc2 := cell_of_row w ca 2 _ _ _ h.at_
  simp only [List.getElem?_toArray, List.getElem?_cons_zero, List.getElem?_cons_succ] at hc0 hc1 hc2
  have hf := fun j => frozen_of_row w ca j _ _ h.at_
  have hta := ta_comb_wk (.bool b)
  have htb := ta_comb_std (.pointer (some ⟨q, 0, none⟩))
  have hown := h.own
  have hne := h.own_ne
  have HH := Lib.hid h
  have HV := Lib.hid hv
  have HK := Lib.hid hok
  clear h hv hok
  skip
  go_enter Tryz.func207, Tryz.ntmps207
  go_wp2_with (at_builtin; refine wpList_append_lies _ rfl _ _ 70 rfl (ca + 1) 72 i .nilIface 1 16 Tryz.underlying70 hi hz0 hz1 hz2 rfl (by decide) _ _ _ rfl (hown.alloc _) ⟨w.heap.size, 0, none⟩ 1 1 [.iface 242 (.bool b)] rfl rfl (World.news_of_block (new_block _ _)) (fun u hu => by rw [List.mem_singleton] at hu; rw [hu]; rfl) (by decide) (by unfold maxLen; omega) (by omega) (by simp; omega) _ rfl ?_; intro g cap w2 hown2 hgrow hat hgl; have RR := Lib.hid (HH.out.appended HV.out HK.out ((Below.refl _ _).alloc (Nat.le_refl _) _) hgrow hown2); have e2 := (hgrow.block ca (by simp; omega) (fun e => hne e.symm)).trans ((Below.refl w.heap.size w).alloc (Nat.le_refl _) _ |>.block ca hlt |>.trans HH.out.at_); have hd0 := cell_of_row w2 ca 0 _ _ _ e2; have hd1 := cell_of_row w2 ca 1 _ _ _ e2; have hd2 := cell_of_row w2 ca 2 _ _ _ e2; simp only [List.getElem?_toArray, List.getElem?_cons_zero, List.getElem?_cons_succ] at hd0 hd1 hd2; have hdf := fun j => frozen_of_row w2 ca j _ _ e2; have hlt2 := lt_of_block e2; clear hown2 hgrow hat e2)
  exact bodyPost_end (results_none (by rfl) _ _ _) rfl ⟨rfl, _, RR.out.1, RR.out.2⟩

set_option maxRecDepth 100000 in
theorem lay_wk_verb (q : Nat) (b : Bool) (h : CAt w T ca lv (.iface 248 (.pointer (some ⟨q, 0, none⟩))) true xs aps x) (hok : ApOK T (.wk b) y) (hn : xs.length ≤ 1000) :
    Calls Tryz.prog 207 #[.pointer (some ⟨ca, 0, none⟩), .iface 242 (.bool b)] w (LaidPost w T ca xs aps (.iface 242 (.bool b)) (.wk b) false (x ++ y)) := by
  have hv : ApIs w (.iface 242 (.bool b)) (.wk b) := rfl
  obtain ⟨i, hi, hz0, hz1, hz2⟩ := info72_of
  have hlt := h.lt
  have hc0 := cell_of_row w ca 0 _ _ _ h.at_
  have hc1 := cell_of_row w ca 1 _ _ _ h.at_
  have hc2 := cell_of_row w ca 2 _ _ _ h.at_
  simp only [List.getElem?_toArray, List.getElem?_cons_zero, List.getElem?_cons_succ] at hc0 hc1 hc2
  have hf := fun j => frozen_of_row w ca j _ _ h.at_
  have hta := ta_comb_wk (.bool b)
  have htb := ta_comb_verb (.pointer (some ⟨q, 0, none⟩))
  have hown := h.own
  have hne := h.own_ne
  have HH := Lib.hid h
  have HV := Lib.hid hv
  have HK := Lib.hid hok
  clear h hv hok
  skip
  go_enter Tryz.func207, Tryz.ntmps207
  go_wp2_with (at_builtin; refine wpList_append_lies _ rfl _ _ 70 rfl (ca + 1) 72 i .nilIface 1 16 Tryz.underlying70 hi hz0 hz1 hz2 rfl (by decide) _ _ _ rfl (hown.alloc _) ⟨w.heap.size, 0, none⟩ 1 1 [.iface 242 (.bool b)] rfl rfl (World.news_of_block (new_block _ _)) (fun u hu => by rw [List.mem_singleton] at hu; rw [hu]; rfl) (by decide) (by unfold maxLen; omega) (by omega) (by simp; omega) _ rfl ?_; intro g cap w2 hown2 hgrow hat hgl; have RR := Lib.hid (HH.out.appended HV.out HK.out ((Below.refl _ _).alloc (Nat.le_refl _) _) hgrow hown2); have e2 := (hgrow.block ca (by simp; omega) (fun e => hne e.symm)).trans ((Below.refl w.heap.size w).alloc (Nat.le_refl _) _ |>.block ca hlt |>.trans HH.out.at_); have hd0 := cell_of_row w2 ca 0 _ _ _ e2; have hd1 := cell_of_row w2 ca 1 _ _ _ e2; have hd2 := cell_of_row w2 ca 2 _ _ _ e2; simp only [List.getElem?_toArray, List.getElem?_cons_zero, List.getElem?_cons_succ] at hd0 hd1 hd2; have hdf := fun j => frozen_of_row w2 ca j _ _ e2; have hlt2 := lt_of_block e2; clear hown2 hgrow hat e2)
  exact bodyPost_end (results_none (by rfl) _ _ _) rfl ⟨rfl, _, RR.out.1, RR.out.2⟩

set_option maxRecDepth 100000 in
theorem lay_std_no (p : Nat) (s : List UInt8) (hp : w.heap[p]? = some (.cells #[.string (bs s)] 247 (0, 0))) (h : CAt w T ca lv pv false xs aps x) (hok : ApOK T (.std s) y) (hn : xs.length ≤ 1000) :
    Calls Tryz.prog 207 #[.pointer (some ⟨ca, 0, none⟩), .iface 245 (.pointer (some ⟨p, 0, none⟩))] w (LaidPost w T ca xs aps (.iface 245 (.pointer (some ⟨p, 0, none⟩))) (.std s) true (x ++ y)) := by
  have hv : ApIs w (.iface 245 (.pointer (some ⟨p, 0, none⟩))) (.std s) := ⟨p, rfl, hp⟩
  obtain hpv := h.pv1
  obtain ⟨i, hi, hz0, hz1, hz2⟩ := info72_of
  have hlt := h.lt
  have hc0 := cell_of_row w ca 0 _ _ _ h.at_
  have hc1 := cell_of_row w ca 1 _ _ _ h.at_
  have hc2 := cell_of_row w ca 2 _ _ _ h.at_
  simp only [List.getElem?_toArray, List.getElem?_cons_zero, List.getElem?_cons_succ] at hc0 hc1 hc2
  have hf := fun j => frozen_of_row w ca j _ _ h.at_
  have hcp := cell_of_one hp
  have hltp := lt_of_block hp
  have hpca : p ≠ ca := by
    rintro rfl
    rw [h.at_] at hp
    simp at hp
  have hrow : ∀ g, lv.ownBlock = some g → p ≠ g := by
    rintro g e rfl
    obtain ⟨C, e3, h2, h3, h4⟩ := h.noAp.2 _ e
    rw [hp] at h2
    simp at h2
    exact absurd h2.2.symm (by first | exact h3 | exact h4)
  have hta := ta_comb_std (.pointer (some ⟨p, 0, none⟩))
  have hm0 := m_can_std p (bs s)
  have hown := h.own
  have hne := h.own_ne
  have HH := Lib.hid h
  have HV := Lib.hid hv
  have HK := Lib.hid hok
  clear h hv hok
  skip
  rcases hpv with rfl | ⟨t1, u1, rfl⟩
  · go_enter Tryz.func207, Tryz.ntmps207
    go_wp2_with (at_builtin; refine wpList_append_lies _ rfl _ _ 70 rfl (ca + 1) 72 i .nilIface 1 16 Tryz.underlying70 hi hz0 hz1 hz2 rfl (by decide) _ _ _ rfl (hown.alloc _) ⟨w.heap.size, 0, none⟩ 1 1 [.iface 245 (.pointer (some ⟨p, 0, none⟩))] rfl rfl (World.news_of_block (new_block _ _)) (fun u hu => by rw [List.mem_singleton] at hu; rw [hu]; rfl) (by decide) (by unfold maxLen; omega) (by omega) (by simp; omega) _ rfl ?_; intro g cap w2 hown2 hgrow hat hgl; have RR := Lib.hid (HH.out.appended HV.out HK.out ((Below.refl _ _).alloc (Nat.le_refl _) _) hgrow hown2); have e2 := (hgrow.block ca (by simp; omega) (fun e => hne e.symm)).trans ((Below.refl w.heap.size w).alloc (Nat.le_refl _) _ |>.block ca hlt |>.trans HH.out.at_); have hd0 := cell_of_row w2 ca 0 _ _ _ e2; have hd1 := cell_of_row w2 ca 1 _ _ _ e2; have hd2 := cell_of_row w2 ca 2 _ _ _ e2; simp only [List.getElem?_toArray, List.getElem?_cons_zero, List.getElem?_cons_succ] at hd0 hd1 hd2; have hdf := fun j => frozen_of_row w2 ca j _ _ e2; have hlt2 := lt_of_block e2; have hpq : w2.heap[p]? = some (.cells #[.string (bs s)] 247 (0, 0)) := (hgrow.block p (by simp; omega) (fun e => hrow p e.symm rfl)).trans ((Below.refl w.heap.size w).alloc (Nat.le_refl _) _ |>.block p hltp |>.trans hp); have hdp := cell_of_one hpq; clear hpq; clear hown2 hgrow hat e2)
    refine (can_std _ _).mono ?_
    rintro e w5 ⟨rfl, hb5⟩
    obtain ⟨hc5, hf5⟩ := bcell hb5
    have R5 := Lib.hid (RR.out.1.keep hb5)
    have B5 := Lib.hid (RR.out.2.trans (hb5.mono (Nat.le_of_lt RR.out.1.lt)))
    clear hb5
    have hlt5 := R5.out.lt
    have e5 := R5.out.at_
    have hd5 := cell_of_row w5 ca 2 _ _ _ e5
    simp only [List.getElem?_toArray, List.getElem?_cons_zero, List.getElem?_cons_succ] at hd5
    have hdf5 := fun j => frozen_of_row w5 ca j _ _ e5
    clear e5
    dsimp only
    go_wp2
    have M5 := R5.out.marked trivial
    exact bodyPost_end (results_none (by rfl) _ _ _) rfl ⟨rfl, _, M5.1, B5.out.trans M5.2⟩
  · go_enter Tryz.func207, Tryz.ntmps207
    go_wp2_with (at_builtin; refine wpList_append_lies _ rfl _ _ 70 rfl (ca + 1) 72 i .nilIface 1 16 Tryz.underlying70 hi hz0 hz1 hz2 rfl (by decide) _ _ _ rfl (hown.alloc _) ⟨w.heap.size, 0, none⟩ 1 1 [.iface 245 (.pointer (some ⟨p, 0, none⟩))] rfl rfl (World.news_of_block (new_block _ _)) (fun u hu => by rw [List.mem_singleton] at hu; rw [hu]; rfl) (by decide) (by unfold maxLen; omega) (by omega) (by simp; omega) _ rfl ?_; intro g cap w2 hown2 hgrow hat hgl; have RR := Lib.hid (HH.out.appended HV.out HK.out ((Below.refl _ _).alloc (Nat.le_refl _) _) hgrow hown2); have e2 := (hgrow.block ca (by simp; omega) (fun e => hne e.symm)).trans ((Below.refl w.heap.size w).alloc (Nat.le_refl _) _ |>.block ca hlt |>.trans HH.out.at_); have hd0 := cell_of_row w2 ca 0 _ _ _ e2; have hd1 := cell_of_row w2 ca 1 _ _ _ e2; have hd2 := cell_of_row w2 ca 2 _ _ _ e2; simp only [List.getElem?_toArray, List.getElem?_cons_zero, List.getElem?_cons_succ] at hd0 hd1 hd2; have hdf := fun j => frozen_of_row w2 ca j _ _ e2; have hlt2 := lt_of_block e2; have hpq : w2.heap[p]? = some (.cells #[.string (bs s)] 247 (0, 0)) := (hgrow.block p (by simp; omega) (fun e => hrow p e.symm rfl)).trans ((Below.refl w.heap.size w).alloc (Nat.le_refl _) _ |>.block p hltp |>.trans hp); have hdp := cell_of_one hpq; clear hpq; clear hown2 hgrow hat e2)
    refine (can_std _ _).mono ?_
    rintro e w5 ⟨rfl, hb5⟩
    obtain ⟨hc5, hf5⟩ := bcell hb5
    have R5 := Lib.hid (RR.out.1.keep hb5)
    have B5 := Lib.hid (RR.out.2.trans (hb5.mono (Nat.le_of_lt RR.out.1.lt)))
    clear hb5
    have hlt5 := R5.out.lt
    have e5 := R5.out.at_
    have hd5 := cell_of_row w5 ca 2 _ _ _ e5
    simp only [List.getElem?_toArray, List.getElem?_cons_zero, List.getElem?_cons_succ] at hd5
    have hdf5 := fun j => frozen_of_row w5 ca j _ _ e5
    clear e5
    dsimp only
    go_wp2
    have M5 := R5.out.marked trivial
    exact bodyPost_end (results_none (by rfl) _ _ _) rfl ⟨rfl, _, M5.1, B5.out.trans M5.2⟩

set_option maxRecDepth 100000 in
theorem lay_verb_no (p : Nat) (s : List UInt8) (hp : w.heap[p]? = some (.cells #[.string (bs s)] 249 (0, 0))) (hch : ∀ c ∈ s, okCh c = true) (hsz : s.length ≤ 1000) (h : CAt w T ca lv pv false xs aps x) (hok : ApOK T (.verb s) y) (hn : xs.length ≤ 1000) :
    Calls Tryz.prog 207 #[.pointer (some ⟨ca, 0, none⟩), .iface 248 (.pointer (some ⟨p, 0, none⟩))] w (LaidPost w T ca xs aps (.iface 248 (.pointer (some ⟨p, 0, none⟩))) (.verb s) true (x ++ y)) := by
  have hv : ApIs w (.iface 248 (.pointer (some ⟨p, 0, none⟩))) (.verb s) := ⟨p, rfl, hp⟩
  obtain hpv := h.pv1
  obtain ⟨i, hi, hz0, hz1, hz2⟩ := info72_of
  have hlt := h.lt
  have hc0 := cell_of_row w ca 0 _ _ _ h.at_
  have hc1 := cell_of_row w ca 1 _ _ _ h.at_
  have hc2 := cell_of_row w ca 2 _ _ _ h.at_
  simp only [List.getElem?_toArray, List.getElem?_cons_zero, List.getElem?_cons_succ] at hc0 hc1 hc2
  have hf := fun j => frozen_of_row w ca j _ _ h.at_
  have hcp := cell_of_one hp
  have hltp := lt_of_block hp
  have hpca : p ≠ ca := by
    rintro rfl
    rw [h.at_] at hp
    simp at hp
  have hrow : ∀ g, lv.ownBlock = some g → p ≠ g := by
    rintro g e rfl
    obtain ⟨C, e3, h2, h3, h4⟩ := h.noAp.2 _ e
    rw [hp] at h2
    simp at h2
    exact absurd h2.2.symm (by first | exact h3 | exact h4)
  have hta := ta_comb_verb (.pointer (some ⟨p, 0, none⟩))
  have hm0 := m_can_verb p (bs s)
  have hown := h.own
  have hne := h.own_ne
  have HH := Lib.hid h
  have HV := Lib.hid hv
  have HK := Lib.hid hok
  clear h hv hok
  skip
  rcases hpv with rfl | ⟨t1, u1, rfl⟩
  · go_enter Tryz.func207, Tryz.ntmps207
    go_wp2_with (at_builtin; refine wpList_append_lies _ rfl _ _ 70 rfl (ca + 1) 72 i .nilIface 1 16 Tryz.underlying70 hi hz0 hz1 hz2 rfl (by decide) _ _ _ rfl (hown.alloc _) ⟨w.heap.size, 0, none⟩ 1 1 [.iface 248 (.pointer (some ⟨p, 0, none⟩))] rfl rfl (World.news_of_block (new_block _ _)) (fun u hu => by rw [List.mem_singleton] at hu; rw [hu]; rfl) (by decide) (by unfold maxLen; omega) (by omega) (by simp; omega) _ rfl ?_; intro g cap w2 hown2 hgrow hat hgl; have RR := Lib.hid (HH.out.appended HV.out HK.out ((Below.refl _ _).alloc (Nat.le_refl _) _) hgrow hown2); have e2 := (hgrow.block ca (by simp; omega) (fun e => hne e.symm)).trans ((Below.refl w.heap.size w).alloc (Nat.le_refl _) _ |>.block ca hlt |>.trans HH.out.at_); have hd0 := cell_of_row w2 ca 0 _ _ _ e2; have hd1 := cell_of_row w2 ca 1 _ _ _ e2; have hd2 := cell_of_row w2 ca 2 _ _ _ e2; simp only [List.getElem?_toArray, List.getElem?_cons_zero, List.getElem?_cons_succ] at hd0 hd1 hd2; have hdf := fun j => frozen_of_row w2 ca j _ _ e2; have hlt2 := lt_of_block e2; have hpq : w2.heap[p]? = some (.cells #[.string (bs s)] 249 (0, 0)) := (hgrow.block p (by simp; omega) (fun e => hrow p e.symm rfl)).trans ((Below.refl w.heap.size w).alloc (Nat.le_refl _) _ |>.block p hltp |>.trans hp); have hdp := cell_of_one hpq; clear hpq; clear hown2 hgrow hat e2)
    refine (can_verb s _ hch hsz).mono ?_
    rintro e w5 ⟨rfl, hb5⟩
    obtain ⟨hc5, hf5⟩ := bcell hb5
    have R5 := Lib.hid (RR.out.1.keep hb5)
    have B5 := Lib.hid (RR.out.2.trans (hb5.mono (Nat.le_of_lt RR.out.1.lt)))
    clear hb5
    have hlt5 := R5.out.lt
    have e5 := R5.out.at_
    have hd5 := cell_of_row w5 ca 2 _ _ _ e5
    simp only [List.getElem?_toArray, List.getElem?_cons_zero, List.getElem?_cons_succ] at hd5
    have hdf5 := fun j => frozen_of_row w5 ca j _ _ e5
    clear e5
    dsimp only
    go_wp2
    have M5 := R5.out.marked trivial
    exact bodyPost_end (results_none (by rfl) _ _ _) rfl ⟨rfl, _, M5.1, B5.out.trans M5.2⟩
  · go_enter Tryz.func207, Tryz.ntmps207
    go_wp2_with (at_builtin; refine wpList_append_lies _ rfl _ _ 70 rfl (ca + 1) 72 i .nilIface 1 16 Tryz.underlying70 hi hz0 hz1 hz2 rfl (by decide) _ _ _ rfl (hown.alloc _) ⟨w.heap.size, 0, none⟩ 1 1 [.iface 248 (.pointer (some ⟨p, 0, none⟩))] rfl rfl (World.news_of_block (new_block _ _)) (fun u hu => by rw [List.mem_singleton] at hu; rw [hu]; rfl) (by decide) (by unfold maxLen; omega) (by omega) (by simp; omega) _ rfl ?_; intro g cap w2 hown2 hgrow hat hgl; have RR := Lib.hid (HH.out.appended HV.out HK.out ((Below.refl _ _).alloc (Nat.le_refl _) _) hgrow hown2); have e2 := (hgrow.block ca (by simp; omega) (fun e => hne e.symm)).trans ((Below.refl w.heap.size w).alloc (Nat.le_refl _) _ |>.block ca hlt |>.trans HH.out.at_); have hd0 := cell_of_row w2 ca 0 _ _ _ e2; have hd1 := cell_of_row w2 ca 1 _ _ _ e2; have hd2 := cell_of_row w2 ca 2 _ _ _ e2; simp only [List.getElem?_toArray, List.getElem?_cons_zero, List.getElem?_cons_succ] at hd0 hd1 hd2; have hdf := fun j => frozen_of_row w2 ca j _ _ e2; have hlt2 := lt_of_block e2; have hpq : w2.heap[p]? = some (.cells #[.string (bs s)] 249 (0, 0)) := (hgrow.block p (by simp; omega) (fun e => hrow p e.symm rfl)).trans ((Below.refl w.heap.size w).alloc (Nat.le_refl _) _ |>.block p hltp |>.trans hp); have hdp := cell_of_one hpq; clear hpq; clear hown2 hgrow hat e2)
    refine (can_verb s _ hch hsz).mono ?_
    rintro e w5 ⟨rfl, hb5⟩
    obtain ⟨hc5, hf5⟩ := bcell hb5
    have R5 := Lib.hid (RR.out.1.keep hb5)
    have B5 := Lib.hid (RR.out.2.trans (hb5.mono (Nat.le_of_lt RR.out.1.lt)))
    clear hb5
    have hlt5 := R5.out.lt
    have e5 := R5.out.at_
    have hd5 := cell_of_row w5 ca 2 _ _ _ e5
    simp only [List.getElem?_toArray, List.getElem?_cons_zero, List.getElem?_cons_succ] at hd5
    have hdf5 := fun j => frozen_of_row w5 ca j _ _ e5
    clear e5
    dsimp only
    go_wp2
    have M5 := R5.out.marked trivial
    exact bodyPost_end (results_none (by rfl) _ _ _) rfl ⟨rfl, _, M5.1, B5.out.trans M5.2⟩
end
end Go.Proofs.YtkcgngpoegglnaaGreatDoor
