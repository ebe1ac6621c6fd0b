/- The first package: the state of the growing list, step by step. · The first package: an appender is joined to the one ahead of it (printed by gen_comb5.py). -/
import Derived.Laws.OwnMore
import Derived.Deep.Onto
import Derived.Test.YtkcgngpoegglnaaGreatDoorM18
import Derived.Test.YtkcgngpoegglnaaGreatDoorM16
import Derived.Test.YtkcgngpoegglnaaGreatDoorM17
/- The first package: the state of the growing list, step by step. -/
section
namespace Go.Proofs.YtkcgngpoegglnaaGreatDoor
open Go Go.RowKit
set_option linter.unusedVariables false
set_option linter.unusedSimpArgs false

theorem own_row_ne {v : Value} : v.ownBlock = none ∨ v.ownBlock ≠ none := by
  cases v.ownBlock <;> simp

theorem own_keep {w w' : World} {base : Nat} {e : TypeId} {v : Value} {n : Nat} {xs : List Value} (h : w.ownsRow base e 1 v n xs) (hb : Below w.heap.size w w') : w'.ownsRow base e 1 v n xs := by
  rcases h.2 with ⟨e1, e2⟩ | ⟨g, cap, cur, e1, h2, h3, h4⟩
  · exact ⟨h.1, .inl ⟨e1, e2⟩⟩
  · exact ⟨h.1, .inr ⟨g, cap, cur, e1, h2, (hb.block g (lt_of_block h3)).trans h3, h4⟩⟩

section
variable {w w1 w2 : World} {T : STime} {ca : Nat} {lv pv nv v : Value} {pc : Bool} {xs : List Value} {aps : List Ap} {a : Ap} {x y : List UInt8}

theorem CAt.keep (h : CAt w T ca lv pv pc xs aps x) (hb : Below w.heap.size w w1) : CAt w1 T ca lv pv pc xs aps x :=
  ⟨(hb.block ca (lt_of_block h.at_)).trans h.at_, own_keep h.own hb, Apps.keep (fun _ _ hv => hv.below hb) _ _ _ h.is, h.last, h.one, h.pv1⟩

theorem noAp_set (h : w.heap[ca]? = some (.cells #[lv, pv, .bool pc] 74 (0, 0))) : ∀ g, some ca = some g → NoAp w g := by
  rintro g e
  obtain rfl : ca = g := by simpa using e
  exact ⟨_, _, h, by decide, by decide⟩

theorem CAt.lt (h : CAt w T ca lv pv pc xs aps x) : ca < w.heap.size := lt_of_block h.at_

theorem CAt.appended (h : CAt w T ca lv pv pc xs aps x) (ha : ApIs w v a) (hok : ApOK T a y) (h1 : Below w.heap.size w w1) (hg : w1.grownBy w2 lv.ownBlock) (hown : w2.ownsRow (ca + 1) 72 1 nv (xs.length + 1) (xs ++ [v])) :
    CAt (((w2.setCell ⟨ca, 0, none⟩ nv).setCell ⟨ca, 1, none⟩ v).setCell ⟨ca, 2, none⟩ (.bool false)) T ca nv v false (xs ++ [v]) (aps ++ [a]) (x ++ y) ∧
    Below ca w (((w2.setCell ⟨ca, 0, none⟩ nv).setCell ⟨ca, 1, none⟩ v).setCell ⟨ca, 2, none⟩ (.bool false)) := by
  have hlt := h.lt
  have hk := h.keep h1
  have e2 : w2.heap[ca]? = some (.cells #[lv, pv, .bool pc] 74 (0, 0)) := (hg.block ca hk.lt (fun e => hk.own_ne e.symm)).trans hk.at_
  have s0 := set_block e2 0 nv
  have s1 := set_block s0 1 v
  have s2 := set_block s1 2 (.bool false)
  have n2 : ∀ g, some ca = some g → NoAp w2 g := fun g e => by
    obtain rfl : ca = g := by simpa using e
    exact ⟨_, _, e2, by decide, by decide⟩
  have n3 : ∀ g, some ca = some g → NoAp (w2.setCell ⟨ca, 0, none⟩ nv) g := fun g e => by
    obtain rfl : ca = g := by simpa using e
    exact ⟨_, _, s0, by decide, by decide⟩
  have n4 : ∀ g, some ca = some g → NoAp ((w2.setCell ⟨ca, 0, none⟩ nv).setCell ⟨ca, 1, none⟩ v) g := fun g e => by
    obtain rfl : ca = g := by simpa using e
    exact ⟨_, _, s1, by decide, by decide⟩
  have kk : ∀ u b, ApIs w u b → ApIs (((w2.setCell ⟨ca, 0, none⟩ nv).setCell ⟨ca, 1, none⟩ v).setCell ⟨ca, 2, none⟩ (.bool false)) u b := fun u b hu =>
    ((((hu.below h1).grown hg (fun g e => hk.noAp.2 g e)).grown (grown_set w2 ca 0 nv) n2).grown (grown_set _ ca 1 v) n3).grown (grown_set _ ca 2 _) n4
  obtain ⟨t, u, e⟩ := ha.shape
  refine ⟨⟨s2.trans (by simp), ?_, Apps.snoc (kk _ _ ha) hok _ _ _ (Apps.keep kk _ _ _ h.is), by simp, ?_, .inr ⟨t, u, e⟩⟩, ?_⟩
  · have := ownsRow_setCell_below (ownsRow_setCell_below (ownsRow_setCell_below hown (a := ⟨ca, 0, none⟩) (Nat.lt_succ_self ca) nv) (a := ⟨ca, 1, none⟩) (Nat.lt_succ_self ca) v) (a := ⟨ca, 2, none⟩) (Nat.lt_succ_self ca) (.bool false)
    simpa using this
  · intro z hz
    rcases List.mem_append.1 hz with hz | hz
    · exact h.one z hz
    · rw [List.mem_singleton] at hz
      exact ⟨t, u, hz.trans e⟩
  · have b1 : Below ca w1 w2 := below_of_grown hg (Nat.le_of_lt hk.lt) (fun g e => by have := (hk.own.lt g e).1; omega)
    exact (((h1.mono (Nat.le_of_lt hlt)).trans b1).trans (below_of_grown (grown_set w2 ca 0 nv) (Nat.le_of_lt (lt_of_block e2)) (fun g e => by simp at e; omega))).trans
      ((below_of_grown (grown_set _ ca 1 v) (Nat.le_of_lt (lt_of_block s0)) (fun g e => by simp at e; omega)).trans (below_of_grown (grown_set _ ca 2 _) (Nat.le_of_lt (lt_of_block s1)) (fun g e => by simp at e; omega)))

theorem CAt.marked (h : CAt w T ca lv v false (xs ++ [v]) (aps ++ [a]) x) (hc : a.comb) : CAt (w.setCell ⟨ca, 2, none⟩ (.bool true)) T ca lv v true (xs ++ [v]) (aps ++ [a]) x ∧ Below ca w (w.setCell ⟨ca, 2, none⟩ (.bool true)) := by
  have s := set_block h.at_ 2 (.bool true)
  refine ⟨⟨s.trans (by simp), ownsRow_setCell_below h.own (a := ⟨ca, 2, none⟩) (Nat.lt_succ_self ca) _, Apps.keep (fun u b hu => hu.grown (grown_set w ca 2 _) (noAp_set h.at_)) _ _ _ h.is, fun _ => ⟨xs, v, aps, a, rfl, rfl, rfl, hc⟩, h.one, h.pv1⟩, ?_⟩
  exact below_of_grown (grown_set _ ca 2 _) (Nat.le_of_lt h.lt) (fun g e => by simp at e; omega)

theorem CAt.joined {g cap : Nat} {p z : Value} {b : Ap} {x1 : List UInt8} (h : CAt w T ca (.slice (some ⟨g, 0, none⟩) (xs.length + 1) cap) pv true (xs ++ [p]) (aps ++ [a]) x) (h1 : Apps w T xs aps x1) (hz : ApIs w z b) (hb : b.comb) (hok : ApOK T b y) :
    CAt ((w.setCell ⟨ca, 1, none⟩ z).setCell ⟨g, xs.length, none⟩ z) T ca (.slice (some ⟨g, 0, none⟩) (xs.length + 1) cap) z true (xs ++ [z]) (aps ++ [b]) (x1 ++ y) ∧
    Below ca w ((w.setCell ⟨ca, 1, none⟩ z).setCell ⟨g, xs.length, none⟩ z) := by
  have hg := h.own.lt g rfl
  have s1 := set_block h.at_ 1 z
  have o1 := ownsRow_setCell_below h.own (a := ⟨ca, 1, none⟩) (Nat.lt_succ_self ca) z
  have o2 := (World.ownsRow.stored (by simpa using o1) xs.length z).1
  obtain ⟨t, u, e⟩ := hz.shape
  have gn : ∀ k, some g = some k → NoAp (w.setCell ⟨ca, 1, none⟩ z) k := by
    intro k e
    obtain rfl : g = k := by simpa using e
    rcases o1.2 with ⟨e, _⟩ | ⟨g', cap', cur, e, _, hh, _⟩
    · cases e
    · obtain ⟨rfl, _⟩ : g = g' ∧ cap = cap' := by simpa using e
      exact ⟨_, _, hh, by decide, by decide⟩
  have kk : ∀ u b, ApIs w u b → ApIs ((w.setCell ⟨ca, 1, none⟩ z).setCell ⟨g, xs.length, none⟩ z) u b := fun u b hu =>
    (hu.grown (grown_set w ca 1 z) (noAp_set h.at_)).grown (grown_set _ g xs.length z) gn
  refine ⟨⟨?_, ?_, Apps.snoc (kk _ _ hz) hok _ _ _ (Apps.keep kk _ _ _ h1), fun _ => ⟨xs, z, aps, b, rfl, rfl, rfl, hb⟩, ?_, .inr ⟨t, u, e⟩⟩, ?_⟩
  · rw [Below.heap_setCell _ ⟨g, xs.length, none⟩ z ca (by show ca ≠ g; omega)]
    exact s1.trans (by simp)
  · simpa using o2
  · intro q hq
    rcases List.mem_append.1 hq with hq | hq
    · exact h.one q (List.mem_append.2 (.inl hq))
    · rw [List.mem_singleton] at hq
      exact ⟨t, u, hq.trans e⟩
  · exact (below_of_grown (grown_set w ca 1 z) (Nat.le_of_lt h.lt) (fun k e => by simp at e; omega)).trans
      (below_of_grown (grown_set _ g xs.length z) (Nat.le_of_lt (lt_of_block s1)) (fun k e => by simp at e; omega))

end
end Go.Proofs.YtkcgngpoegglnaaGreatDoor
end
/- The first package: an appender is joined to the one ahead of it (printed by gen_comb5.py). -/
section
namespace Go.Proofs.YtkcgngpoegglnaaGreatDoor
open Go Go.RowKit
set_option linter.unusedVariables false
set_option linter.unusedSimpArgs false

/-- the end of a call that joins an appender to the last one. -/
def JoinedPost (w : World) (T : STime) (ca : Nat) (lv : Value) (ys : List Value) (l : List Ap) (a : Ap) (x : List UInt8) (e : Ending) (w' : World) : Prop :=
  e = .returned (.tuple #[]) ∧ ∃ z, CAt w' T ca lv z true (ys ++ [z]) (l ++ [a]) x ∧ Below ca w w'

section
variable {w : World} {T : STime} {ca : Nat} {lv pv : Value} {ys : List Value} {l : List Ap} {x y : List UInt8}

set_option maxRecDepth 100000 in
theorem join_std_std (q p : Nat) (s1 s2 : List UInt8) (h : CAt w T ca lv (.iface 245 (.pointer (some ⟨q, 0, none⟩))) true (ys ++ [.iface 245 (.pointer (some ⟨q, 0, none⟩))]) (l ++ [.std s1]) x)
    (hp : w.heap[p]? = some (.cells #[.string (bs s2)] 247 (0, 0))) (h1 : s1.length ≤ 1000) (h2 : s2.length ≤ 1000) (hn : ys.length ≤ 1000)
    (hok : ∀ z, ApOK T (.std s1) z → ApOK T (.std (s1 ++ s2)) (z ++ y)) :
    Calls Tryz.prog 207 #[.pointer (some ⟨ca, 0, none⟩), .iface 245 (.pointer (some ⟨p, 0, none⟩))] w (JoinedPost w T ca lv ys l (.std (s1 ++ s2)) (x ++ y)) := by
  obtain ⟨x1, x2, rfl, hx1, ⟨q', hqe, hq⟩, hx2⟩ := h.is.unsnoc
  obtain rfl : q = q' := by simpa using hqe
  clear hqe
  have hok := hok _ hx2
  have hlen : (ys ++ [Value.iface 245 (.pointer (some ⟨q, 0, none⟩))]).length = ys.length + 1 := by simp
  have hown := h.own
  rw [hlen] at hown
  obtain ⟨g, cap, rfl, hg1, hg2⟩ := hown.form (by omega)
  have hlt := h.lt
  have hc0 := cell_of_row w ca 0 _ _ _ h.at_
  have hc1 := cell_of_row w ca 1 _ _ _ h.at_
  have hc2 := cell_of_row w ca 2 _ _ _ h.at_
  simp only [List.getElem?_toArray, List.getElem?_cons_zero, List.getElem?_cons_succ] at hc0 hc1 hc2
  have hf := fun j => frozen_of_row w ca j _ _ h.at_
  have hltp := lt_of_block hp
  have hltq := lt_of_block hq
  have hta := ta_comb_std (.pointer (some ⟨p, 0, none⟩))
  have htb := ta_comb_std (.pointer (some ⟨q, 0, none⟩))
  have hm0 := m_can_std p (bs s2) w (cell_of_one hp)
  have HH := Lib.hid h
  have HK := Lib.hid hok
  have HX := Lib.hid hx1
  clear h hok hown hlen hx1 hx2
  go_enter Tryz.func207, Tryz.ntmps207
  go_wp2_with (fail)
  refine (can_std _ _).mono ?_
  rintro e w5 ⟨rfl, hb5⟩
  obtain ⟨hc5, hf5⟩ := bcell hb5
  have R5 := Lib.hid (HH.out.keep hb5)
  have X5 := Lib.hid (Apps.keep (fun _ _ hv => hv.below hb5) _ _ _ HX.out)
  have hp5 := (hb5.block p hltp).trans hp
  have hq5 := (hb5.block q hltq).trans hq
  have hm1 := m_comb_std q (bs s1) w5 (cell_of_one hq5)
  have B5 := Lib.hid (hb5.mono (Nat.le_of_lt hlt))
  clear hb5 HH HX hq5
  have hlt5 := R5.out.lt
  dsimp only
  go_wp2_with (fail)
  refine (comb_std_std s1 s2 p w5 hp5 h1 h2).mono ?_
  rintro e w6 ⟨u, rfl, hu, hb6⟩
  have R6 := Lib.hid (R5.out.keep hb6)
  have X6 := Lib.hid (Apps.keep (fun _ _ hv => hv.below hb6) _ _ _ X5.out)
  have B6 := Lib.hid (B5.out.trans (hb6.mono (Nat.le_of_lt hlt5)))
  obtain ⟨r, rfl, hr⟩ := hu
  clear hb6 R5 X5 B5
  have HU := Lib.hid hr
  have hlt6 := R6.out.lt
  have hd0 := cell_of_row w6 ca 0 _ _ _ R6.out.at_
  have hd1 := cell_of_row w6 ca 1 _ _ _ R6.out.at_
  simp only [List.getElem?_toArray, List.getElem?_cons_zero, List.getElem?_cons_succ] at hd0 hd1
  have hdf := fun j => frozen_of_row w6 ca j _ _ R6.out.at_
  have hown6 := R6.out.own
  have hlen : (ys ++ [Value.iface 245 (.pointer (some ⟨q, 0, none⟩))]).length = ys.length + 1 := by simp
  rw [hlen] at hown6
  have hg6 := hown6.lt g rfl
  have hgc := hown6.cellAt ys.length (by omega)
  rw [List.getElem?_append_right (Nat.le_refl _), Nat.sub_self, List.getElem?_cons_zero] at hgc
  have hgf := hown6.frozenAt ys.length
  have hgne : g ≠ ca := by omega
  have hgne' : ca ≠ g := by omega
  have hsub : ((ys.length : Int) + 1) - 1 = (ys.length : Int) := by omega
  have ht1 : (0 : Int) ≤ (ys.length : Int) := by omega
  have ht2 : (ys.length : Int) < (ys.length : Int) + 1 := by omega
  have ht3 : ys.length < ys.length + 1 := by omega
  have ht4 : ((ys.length : Int)).toNat = ys.length := by omega
  have ht5 : (ys.length : Int) < 9223372036854775808 := by omega
  have ht6 : (ys.length : Int) + 1 < 9223372036854775808 := by omega
  clear hr hown6 hlen
  dsimp only
  go_wp2_with (fail)
  go_region
  all_goals
    go_wp2
    have J := CAt.joined R6.out X6.out (show ApIs w6 (.iface 245 (.pointer (some ⟨r, 0, none⟩))) (.std (s1 ++ s2)) from ⟨r, rfl, HU.out⟩) trivial HK.out
    rw [← List.append_assoc] at J
    exact bodyPost_ret (results_none (by rfl) _ _ _) rfl ⟨rfl, _, J.1.keep (below_drewC _), (B6.out.trans J.2).trans ⟨rfl, rfl, rfl, Nat.le_refl _, fun _ _ => rfl⟩⟩

set_option maxRecDepth 100000 in
theorem join_std_verb (q p : Nat) (s1 s2 : List UInt8) (h : CAt w T ca lv (.iface 245 (.pointer (some ⟨q, 0, none⟩))) true (ys ++ [.iface 245 (.pointer (some ⟨q, 0, none⟩))]) (l ++ [.std s1]) x)
    (hp : w.heap[p]? = some (.cells #[.string (bs s2)] 249 (0, 0))) (h1 : s1.length ≤ 1000) (h2 : s2.length ≤ 1000) (hch : ∀ c ∈ s2, okCh c = true) (hn : ys.length ≤ 1000)
    (hok : ∀ z, ApOK T (.std s1) z → ApOK T (.std (s1 ++ s2)) (z ++ y)) :
    Calls Tryz.prog 207 #[.pointer (some ⟨ca, 0, none⟩), .iface 248 (.pointer (some ⟨p, 0, none⟩))] w (JoinedPost w T ca lv ys l (.std (s1 ++ s2)) (x ++ y)) := by
  obtain ⟨x1, x2, rfl, hx1, ⟨q', hqe, hq⟩, hx2⟩ := h.is.unsnoc
  obtain rfl : q = q' := by simpa using hqe
  clear hqe
  have hok := hok _ hx2
  have hlen : (ys ++ [Value.iface 245 (.pointer (some ⟨q, 0, none⟩))]).length = ys.length + 1 := by simp
  have hown := h.own
  rw [hlen] at hown
  obtain ⟨g, cap, rfl, hg1, hg2⟩ := hown.form (by omega)
  have hlt := h.lt
  have hc0 := cell_of_row w ca 0 _ _ _ h.at_
  have hc1 := cell_of_row w ca 1 _ _ _ h.at_
  have hc2 := cell_of_row w ca 2 _ _ _ h.at_
  simp only [List.getElem?_toArray, List.getElem?_cons_zero, List.getElem?_cons_succ] at hc0 hc1 hc2
  have hf := fun j => frozen_of_row w ca j _ _ h.at_
  have hltp := lt_of_block hp
  have hltq := lt_of_block hq
  have hta := ta_comb_verb (.pointer (some ⟨p, 0, none⟩))
  have htb := ta_comb_std (.pointer (some ⟨q, 0, none⟩))
  have hm0 := m_can_verb p (bs s2) w (cell_of_one hp)
  have HH := Lib.hid h
  have HK := Lib.hid hok
  have HX := Lib.hid hx1
  clear h hok hown hlen hx1 hx2
  go_enter Tryz.func207, Tryz.ntmps207
  go_wp2_with (fail)
  refine (can_verb s2 _ hch h2).mono ?_
  rintro e w5 ⟨rfl, hb5⟩
  obtain ⟨hc5, hf5⟩ := bcell hb5
  have R5 := Lib.hid (HH.out.keep hb5)
  have X5 := Lib.hid (Apps.keep (fun _ _ hv => hv.below hb5) _ _ _ HX.out)
  have hp5 := (hb5.block p hltp).trans hp
  have hq5 := (hb5.block q hltq).trans hq
  have hm1 := m_comb_std q (bs s1) w5 (cell_of_one hq5)
  have B5 := Lib.hid (hb5.mono (Nat.le_of_lt hlt))
  clear hb5 HH HX hq5
  have hlt5 := R5.out.lt
  dsimp only
  go_wp2_with (fail)
  refine (comb_std_verb s1 s2 p w5 hp5 h1 h2).mono ?_
  rintro e w6 ⟨u, rfl, hu, hb6⟩
  have R6 := Lib.hid (R5.out.keep hb6)
  have X6 := Lib.hid (Apps.keep (fun _ _ hv => hv.below hb6) _ _ _ X5.out)
  have B6 := Lib.hid (B5.out.trans (hb6.mono (Nat.le_of_lt hlt5)))
  obtain ⟨r, rfl, hr⟩ := hu
  clear hb6 R5 X5 B5
  have HU := Lib.hid hr
  have hlt6 := R6.out.lt
  have hd0 := cell_of_row w6 ca 0 _ _ _ R6.out.at_
  have hd1 := cell_of_row w6 ca 1 _ _ _ R6.out.at_
  simp only [List.getElem?_toArray, List.getElem?_cons_zero, List.getElem?_cons_succ] at hd0 hd1
  have hdf := fun j => frozen_of_row w6 ca j _ _ R6.out.at_
  have hown6 := R6.out.own
  have hlen : (ys ++ [Value.iface 245 (.pointer (some ⟨q, 0, none⟩))]).length = ys.length + 1 := by simp
  rw [hlen] at hown6
  have hg6 := hown6.lt g rfl
  have hgc := hown6.cellAt ys.length (by omega)
  rw [List.getElem?_append_right (Nat.le_refl _), Nat.sub_self, List.getElem?_cons_zero] at hgc
  have hgf := hown6.frozenAt ys.length
  have hgne : g ≠ ca := by omega
  have hgne' : ca ≠ g := by omega
  have hsub : ((ys.length : Int) + 1) - 1 = (ys.length : Int) := by omega
  have ht1 : (0 : Int) ≤ (ys.length : Int) := by omega
  have ht2 : (ys.length : Int) < (ys.length : Int) + 1 := by omega
  have ht3 : ys.length < ys.length + 1 := by omega
  have ht4 : ((ys.length : Int)).toNat = ys.length := by omega
  have ht5 : (ys.length : Int) < 9223372036854775808 := by omega
  have ht6 : (ys.length : Int) + 1 < 9223372036854775808 := by omega
  clear hr hown6 hlen
  dsimp only
  go_wp2_with (fail)
  go_region
  all_goals
    go_wp2
    have J := CAt.joined R6.out X6.out (show ApIs w6 (.iface 245 (.pointer (some ⟨r, 0, none⟩))) (.std (s1 ++ s2)) from ⟨r, rfl, HU.out⟩) trivial HK.out
    rw [← List.append_assoc] at J
    exact bodyPost_ret (results_none (by rfl) _ _ _) rfl ⟨rfl, _, J.1.keep (below_drewC _), (B6.out.trans J.2).trans ⟨rfl, rfl, rfl, Nat.le_refl _, fun _ _ => rfl⟩⟩

set_option maxRecDepth 100000 in
theorem join_verb_std (q p : Nat) (s1 s2 : List UInt8) (h : CAt w T ca lv (.iface 248 (.pointer (some ⟨q, 0, none⟩))) true (ys ++ [.iface 248 (.pointer (some ⟨q, 0, none⟩))]) (l ++ [.verb s1]) x)
    (hp : w.heap[p]? = some (.cells #[.string (bs s2)] 247 (0, 0))) (h1 : s1.length ≤ 1000) (h2 : s2.length ≤ 1000) (hn : ys.length ≤ 1000)
    (hok : ∀ z, ApOK T (.verb s1) z → ApOK T (.std (s1 ++ s2)) (z ++ y)) :
    Calls Tryz.prog 207 #[.pointer (some ⟨ca, 0, none⟩), .iface 245 (.pointer (some ⟨p, 0, none⟩))] w (JoinedPost w T ca lv ys l (.std (s1 ++ s2)) (x ++ y)) := by
  obtain ⟨x1, x2, rfl, hx1, ⟨q', hqe, hq⟩, hx2⟩ := h.is.unsnoc
  obtain rfl : q = q' := by simpa using hqe
  clear hqe
  have hok := hok _ hx2
  have hlen : (ys ++ [Value.iface 248 (.pointer (some ⟨q, 0, none⟩))]).length = ys.length + 1 := by simp
  have hown := h.own
  rw [hlen] at hown
  obtain ⟨g, cap, rfl, hg1, hg2⟩ := hown.form (by omega)
  have hlt := h.lt
  have hc0 := cell_of_row w ca 0 _ _ _ h.at_
  have hc1 := cell_of_row w ca 1 _ _ _ h.at_
  have hc2 := cell_of_row w ca 2 _ _ _ h.at_
  simp only [List.getElem?_toArray, List.getElem?_cons_zero, List.getElem?_cons_succ] at hc0 hc1 hc2
  have hf := fun j => frozen_of_row w ca j _ _ h.at_
  have hltp := lt_of_block hp
  have hltq := lt_of_block hq
  have hta := ta_comb_std (.pointer (some ⟨p, 0, none⟩))
  have htb := ta_comb_verb (.pointer (some ⟨q, 0, none⟩))
  have hm0 := m_can_std p (bs s2) w (cell_of_one hp)
  have HH := Lib.hid h
  have HK := Lib.hid hok
  have HX := Lib.hid hx1
  clear h hok hown hlen hx1 hx2
  go_enter Tryz.func207, Tryz.ntmps207
  go_wp2_with (fail)
  refine (can_std _ _).mono ?_
  rintro e w5 ⟨rfl, hb5⟩
  obtain ⟨hc5, hf5⟩ := bcell hb5
  have R5 := Lib.hid (HH.out.keep hb5)
  have X5 := Lib.hid (Apps.keep (fun _ _ hv => hv.below hb5) _ _ _ HX.out)
  have hp5 := (hb5.block p hltp).trans hp
  have hq5 := (hb5.block q hltq).trans hq
  have hm1 := m_comb_verb q (bs s1) w5 (cell_of_one hq5)
  have B5 := Lib.hid (hb5.mono (Nat.le_of_lt hlt))
  clear hb5 HH HX hq5
  have hlt5 := R5.out.lt
  dsimp only
  go_wp2_with (fail)
  refine (comb_verb_std s1 s2 p w5 hp5 h1 h2).mono ?_
  rintro e w6 ⟨u, rfl, hu, hb6⟩
  have R6 := Lib.hid (R5.out.keep hb6)
  have X6 := Lib.hid (Apps.keep (fun _ _ hv => hv.below hb6) _ _ _ X5.out)
  have B6 := Lib.hid (B5.out.trans (hb6.mono (Nat.le_of_lt hlt5)))
  obtain ⟨r, rfl, hr⟩ := hu
  clear hb6 R5 X5 B5
  have HU := Lib.hid hr
  have hlt6 := R6.out.lt
  have hd0 := cell_of_row w6 ca 0 _ _ _ R6.out.at_
  have hd1 := cell_of_row w6 ca 1 _ _ _ R6.out.at_
  simp only [List.getElem?_toArray, List.getElem?_cons_zero, List.getElem?_cons_succ] at hd0 hd1
  have hdf := fun j => frozen_of_row w6 ca j _ _ R6.out.at_
  have hown6 := R6.out.own
  have hlen : (ys ++ [Value.iface 248 (.pointer (some ⟨q, 0, none⟩))]).length = ys.length + 1 := by simp
  rw [hlen] at hown6
  have hg6 := hown6.lt g rfl
  have hgc := hown6.cellAt ys.length (by omega)
  rw [List.getElem?_append_right (Nat.le_refl _), Nat.sub_self, List.getElem?_cons_zero] at hgc
  have hgf := hown6.frozenAt ys.length
  have hgne : g ≠ ca := by omega
  have hgne' : ca ≠ g := by omega
  have hsub : ((ys.length : Int) + 1) - 1 = (ys.length : Int) := by omega
  have ht1 : (0 : Int) ≤ (ys.length : Int) := by omega
  have ht2 : (ys.length : Int) < (ys.length : Int) + 1 := by omega
  have ht3 : ys.length < ys.length + 1 := by omega
  have ht4 : ((ys.length : Int)).toNat = ys.length := by omega
  have ht5 : (ys.length : Int) < 9223372036854775808 := by omega
  have ht6 : (ys.length : Int) + 1 < 9223372036854775808 := by omega
  clear hr hown6 hlen
  dsimp only
  go_wp2_with (fail)
  go_region
  all_goals
    go_wp2
    have J := CAt.joined R6.out X6.out (show ApIs w6 (.iface 245 (.pointer (some ⟨r, 0, none⟩))) (.std (s1 ++ s2)) from ⟨r, rfl, HU.out⟩) trivial HK.out
    rw [← List.append_assoc] at J
    exact bodyPost_ret (results_none (by rfl) _ _ _) rfl ⟨rfl, _, J.1.keep (below_drewC _), (B6.out.trans J.2).trans ⟨rfl, rfl, rfl, Nat.le_refl _, fun _ _ => rfl⟩⟩

set_option maxRecDepth 100000 in
theorem join_verb_verb (q p : Nat) (s1 s2 : List UInt8) (h : CAt w T ca lv (.iface 248 (.pointer (some ⟨q, 0, none⟩))) true (ys ++ [.iface 248 (.pointer (some ⟨q, 0, none⟩))]) (l ++ [.verb s1]) x)
    (hp : w.heap[p]? = some (.cells #[.string (bs s2)] 249 (0, 0))) (h1 : s1.length ≤ 1000) (h2 : s2.length ≤ 1000) (hch : ∀ c ∈ s2, okCh c = true) (hn : ys.length ≤ 1000)
    (hok : ∀ z, ApOK T (.verb s1) z → ApOK T (.verb (s1 ++ s2)) (z ++ y)) :
    Calls Tryz.prog 207 #[.pointer (some ⟨ca, 0, none⟩), .iface 248 (.pointer (some ⟨p, 0, none⟩))] w (JoinedPost w T ca lv ys l (.verb (s1 ++ s2)) (x ++ y)) := by
  obtain ⟨x1, x2, rfl, hx1, ⟨q', hqe, hq⟩, hx2⟩ := h.is.unsnoc
  obtain rfl : q = q' := by simpa using hqe
  clear hqe
  have hok := hok _ hx2
  have hlen : (ys ++ [Value.iface 248 (.pointer (some ⟨q, 0, none⟩))]).length = ys.length + 1 := by simp
  have hown := h.own
  rw [hlen] at hown
  obtain ⟨g, cap, rfl, hg1, hg2⟩ := hown.form (by omega)
  have hlt := h.lt
  have hc0 := cell_of_row w ca 0 _ _ _ h.at_
  have hc1 := cell_of_row w ca 1 _ _ _ h.at_
  have hc2 := cell_of_row w ca 2 _ _ _ h.at_
  simp only [List.getElem?_toArray, List.getElem?_cons_zero, List.getElem?_cons_succ] at hc0 hc1 hc2
  have hf := fun j => frozen_of_row w ca j _ _ h.at_
  have hltp := lt_of_block hp
  have hltq := lt_of_block hq
  have hta := ta_comb_verb (.pointer (some ⟨p, 0, none⟩))
  have htb := ta_comb_verb (.pointer (some ⟨q, 0, none⟩))
  have hm0 := m_can_verb p (bs s2) w (cell_of_one hp)
  have HH := Lib.hid h
  have HK := Lib.hid hok
  have HX := Lib.hid hx1
  clear h hok hown hlen hx1 hx2
  go_enter Tryz.func207, Tryz.ntmps207
  go_wp2_with (fail)
  refine (can_verb s2 _ hch h2).mono ?_
  rintro e w5 ⟨rfl, hb5⟩
  obtain ⟨hc5, hf5⟩ := bcell hb5
  have R5 := Lib.hid (HH.out.keep hb5)
  have X5 := Lib.hid (Apps.keep (fun _ _ hv => hv.below hb5) _ _ _ HX.out)
  have hp5 := (hb5.block p hltp).trans hp
  have hq5 := (hb5.block q hltq).trans hq
  have hm1 := m_comb_verb q (bs s1) w5 (cell_of_one hq5)
  have B5 := Lib.hid (hb5.mono (Nat.le_of_lt hlt))
  clear hb5 HH HX hq5
  have hlt5 := R5.out.lt
  dsimp only
  go_wp2_with (fail)
  refine (comb_verb_verb s1 s2 p w5 hp5 h1 h2).mono ?_
  rintro e w6 ⟨u, rfl, hu, hb6⟩
  have R6 := Lib.hid (R5.out.keep hb6)
  have X6 := Lib.hid (Apps.keep (fun _ _ hv => hv.below hb6) _ _ _ X5.out)
  have B6 := Lib.hid (B5.out.trans (hb6.mono (Nat.le_of_lt hlt5)))
  obtain ⟨r, rfl, hr⟩ := hu
  clear hb6 R5 X5 B5
  have HU := Lib.hid hr
  have hlt6 := R6.out.lt
  have hd0 := cell_of_row w6 ca 0 _ _ _ R6.out.at_
  have hd1 := cell_of_row w6 ca 1 _ _ _ R6.out.at_
  simp only [List.getElem?_toArray, List.getElem?_cons_zero, List.getElem?_cons_succ] at hd0 hd1
  have hdf := fun j => frozen_of_row w6 ca j _ _ R6.out.at_
  have hown6 := R6.out.own
  have hlen : (ys ++ [Value.iface 248 (.pointer (some ⟨q, 0, none⟩))]).length = ys.length + 1 := by simp
  rw [hlen] at hown6
  have hg6 := hown6.lt g rfl
  have hgc := hown6.cellAt ys.length (by omega)
  rw [List.getElem?_append_right (Nat.le_refl _), Nat.sub_self, List.getElem?_cons_zero] at hgc
  have hgf := hown6.frozenAt ys.length
  have hgne : g ≠ ca := by omega
  have hgne' : ca ≠ g := by omega
  have hsub : ((ys.length : Int) + 1) - 1 = (ys.length : Int) := by omega
  have ht1 : (0 : Int) ≤ (ys.length : Int) := by omega
  have ht2 : (ys.length : Int) < (ys.length : Int) + 1 := by omega
  have ht3 : ys.length < ys.length + 1 := by omega
  have ht4 : ((ys.length : Int)).toNat = ys.length := by omega
  have ht5 : (ys.length : Int) < 9223372036854775808 := by omega
  have ht6 : (ys.length : Int) + 1 < 9223372036854775808 := by omega
  clear hr hown6 hlen
  dsimp only
  go_wp2_with (fail)
  go_region
  all_goals
    go_wp2
    have J := CAt.joined R6.out X6.out (show ApIs w6 (.iface 248 (.pointer (some ⟨r, 0, none⟩))) (.verb (s1 ++ s2)) from ⟨r, rfl, HU.out⟩) trivial HK.out
    rw [← List.append_assoc] at J
    exact bodyPost_ret (results_none (by rfl) _ _ _) rfl ⟨rfl, _, J.1.keep (below_drewC _), (B6.out.trans J.2).trans ⟨rfl, rfl, rfl, Nat.le_refl _, fun _ _ => rfl⟩⟩
end
end Go.Proofs.YtkcgngpoegglnaaGreatDoor
end
