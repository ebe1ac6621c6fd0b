/- The first package: a format is compiled. · The first package: a format is made ready (New). -/
import Derived.Test.YtkcgngpoegglnaaGreatDoorM23
import Derived.Test.YtkcgngpoegglnaaGreatDoorM24
import Derived.Test.YtkcgngpoegglnaaGreatDoorShelf
/- The first package: a format is compiled. -/
section
namespace Go.Proofs.YtkcgngpoegglnaaGreatDoor
open Go Go.RowKit
set_option linter.unusedVariables false
set_option linter.unusedSimpArgs false

/-- what holds at the head of a round. -/
def CompI (T : STime) (w0 : World) (hb ca S : Nat) (X : List UInt8) (t1 t7 : Value) (w : World) : Prop :=
  ∃ (rest y x : List UInt8) (lv pv : Value) (pc : Bool) (xs : List Value) (aps : List Ap), t1 = .string (bs rest) ∧ t7 = .int .i64 rest.length ∧ textF T rest = some y ∧ firstF rest = true ∧ X = x ++ y ∧
    BuilderAt w hb ca ∧ CAt w T ca lv pv pc xs aps x ∧ xs.length + rest.length ≤ 100 ∧ apsLen aps + 16 * rest.length ≤ 960 ∧ Below w0.heap.size w0 w

theorem m_hv (a : Addr) (w : World) : (method 373 76 (.pointer (some a)) "strftimetexts/pub/lstrftime.handleVerbatim").run Tryz.prog w = .ok (209, .pointer (some a)) w := by kernel_rfl
theorem m_hs (a : Addr) (w : World) : (method 373 76 (.pointer (some a)) "strftimetexts/pub/lstrftime.handleSpec").run Tryz.prog w = .ok (208, .pointer (some a)) w := by kernel_rfl
theorem m_lk (a : Addr) (w : World) : (method 373 100 (.pointer (some a)) "Lookup").run Tryz.prog w = .ok (211, .pointer (some a)) w := by kernel_rfl

theorem na_lk (a : Addr) (w : World) : (nilAhead 373 100 (.pointer (some a)) "Lookup").run Tryz.prog w = .ok (some false) w := by kernel_rfl
theorem na_hv (a : Addr) (w : World) : (nilAhead 373 76 (.pointer (some a)) "strftimetexts/pub/lstrftime.handleVerbatim").run Tryz.prog w = .ok (some false) w := by kernel_rfl

def lenOfT (v : Value) : Nat := match v with | .int _ n => n.toNat | _ => 0

/-- the end of the compiler's run. -/
def CompPost (T : STime) (w0 : World) (hb ca : Nat) (X : List UInt8) (e : Ending) (w : World) : Prop :=
  e = .returned .nilIface ∧ ∃ lv pv pc xs aps, CAt w T ca lv pv pc xs aps X ∧ xs.length ≤ 100 ∧ apsLen aps ≤ 960 ∧ BuilderAt w hb ca ∧ Below w0.heap.size w0 w

set_option maxRecDepth 100000 in
set_option maxHeartbeats 8000000 in
theorem compile_any (T : STime) (hR : RightT T) (w0 w : World) (hb ca S : Nat) (l y : List UInt8) (hx : textF T l = some y) (hf : firstF l = true) (hl : l.length ≤ 60)
    (hS : StoreAt w0 S false specF) (hw : w0.heap.size ≤ hb) (hlt : hb < ca) (hB : BuilderAt w hb ca) (lv pv : Value) (hC : CAt w T ca lv pv false [] [] []) (h0 : Below w0.heap.size w0 w) :
    Calls Tryz.prog 32 #[.iface 76 (.pointer (some ⟨hb, 0, none⟩)), .string (bs l), .iface 100 (.pointer (some ⟨S, 0, none⟩))] w (CompPost T w0 hb ca y) := by
  have I0 := Lib.hid (show CompI T w0 hb ca S y (.string (bs l)) (.int .i64 l.length) w from ⟨l, y, [], lv, pv, false, [], [], rfl, rfl, hx, hf, rfl, hB, hC, by simp; omega, by simp [apsLen]; omega, h0⟩)
  have hsz := bs_size l
  have HSt := Lib.hid hS
  clear hx hf hB hC h0 hS
  generalize bs l = s at *
  go_enter Tryz.func32, Tryz.ntmps32
  go_wp2
  go_loopw [1, 7] (fun t1 t7 wr => CompI T w0 hb ca S y t1 t7 wr) (fun _ t7 _ => lenOfT t7)
  case atStart => simpa [hsz] using I0.out
  case round =>
    obtain ⟨rest, y1, x, lv, pv, pc, xs, aps, rfl, rfl, hx, hf, hX, hB, hC, hn, hm, hbel⟩ := hrel
    clear hl hsz I0
    by_cases hr : rest = []
    · subst hr
      obtain rfl : [] = y1 := Option.some.inj (show some [] = some y1 from hx)
      rw [List.append_nil] at hX
      subst hX
      have HC := Lib.hid hC
      have HB := Lib.hid hB
      have HL := Lib.hid hbel
      clear hx hf hC hB hbel
      go_wp2
      go_ret
      exact ⟨rfl, lv, pv, pc, xs, aps, HC.out, by omega, by omega, HB.out, HL.out⟩
    have hlen : 0 < rest.length := List.length_pos_iff.2 hr
    rcases split_fmt rest y1 hx hf with ⟨hall, hyy⟩ | ⟨pre, c, r, x1, x2, rfl, hp, h1, h2, h3, h4, h5, rfl⟩
    · obtain rfl : rest = y1 := hyy.symm
      have HI := fun w => YtkcgngpoegglnaaGreatDoor.strings_IndexByte (bs rest) 37 w
      rw [bs_data] at HI
      rw [show ((37 : Int).toNat.toUInt8) = 37 from rfl, index_none rest (fun c hc => (hall c hc).2)] at HI
      have HV := hverb_any rest hB hC (fun c hc => (hall c hc).1) (by omega) (by omega)
      have hsz := bs_size rest
      have hmv := m_hv ⟨hb, 0, none⟩
      have hge : 0 < (rest.length : Int) := by omega
      have HB := Lib.hid hB
      have HL := Lib.hid hbel
      have hclt := hC.lt
      clear hx hf hC hB hbel hall hr
      generalize bs rest = s2 at *
      go_wp2_with (first | (go_at_call 43; refine (HI _).mono ?_; rintro e wr ⟨rfl, rfl⟩))
      refine HV.mono ?_
      rintro e w1 ⟨rfl, lv1, pv1, pc1, xs1, aps1, k1, k2, k3, k4⟩
      have KK := Lib.hid (And.intro k1 (And.intro k2 (And.intro k3 k4)))
      clear k1 k2 k3 k4 HV
      dsimp only
      go_wp2
      obtain ⟨k1, k2, k3, k4⟩ := KK.out
      exact ⟨⟨[], [], x ++ rest, lv1, pv1, pc1, xs1, aps1, rfl, rfl, rfl, rfl, by rw [hX, List.append_nil], (k4.block hb hlt).trans HB.out, k1, by simp; omega, by simp; omega, HL.out.trans (k4.mono (by omega))⟩, by simp [lenOfT]; omega⟩
    · have HI := fun w => YtkcgngpoegglnaaGreatDoor.strings_IndexByte (bs (pre ++ 37 :: c :: r)) 37 w
      rw [bs_data] at HI
      rw [show ((37 : Int).toNat.toUInt8) = 37 from rfl, index_at pre (c :: r) (fun c hc => (hp c hc).2)] at HI
      have hsz := bs_size (pre ++ 37 :: c :: r)
      have HB := Lib.hid hB
      have HL := Lib.hid hbel
      have HC := Lib.hid hC
      have HX := Lib.hid (And.intro h1 (And.intro h4 (And.intro h5 hX)))
      obtain ⟨a, ha1, ha2, ha3⟩ := spec_ok hR c x1 h1 h2 h3
      have HA := Lib.hid (And.intro ha1 ha2)
      have b45 : ((c.toNat : Int) == 45) = false := u8_beq (d := 45) (by decide) (oneF_not h1 45 rfl)
      have b35 : ((c.toNat : Int) == 35) = false := u8_beq (d := 35) (by decide) (oneF_not h1 35 rfl)
      have hclt := hC.lt
      have hmv := m_hv ⟨hb, 0, none⟩
      have hms := m_hs ⟨hb, 0, none⟩
      have hml := m_lk ⟨S, 0, none⟩
      have hna1 := na_lk ⟨S, 0, none⟩
      have hna2 := na_hv ⟨hb, 0, none⟩
      have hclt2 : c.toNat < 256 := UInt8.toNat_lt c
      have LK : ∀ (wq : World), Below w0.heap.size w0 wq → Calls Tryz.prog 211 #[.pointer (some ⟨S, 0, none⟩), .int .u8 c.toNat] wq (fun e w' => ∃ v, e = .returned (.tuple #[v, .nilIface]) ∧ ApIs w' v a ∧ Below wq.heap.size wq w') :=
        fun wq hq => lookup_any S c.toNat specF (HSt.out.below hq) hclt2 (by unfold specF; rw [UInt8.ofNat_toNat]; exact ha1)
      clear hx hf hC hB hbel hr h1 h2 h3 h4 h5 hX ha1 ha2
      by_cases hpre : pre = []
      · subst hpre
        simp only [List.nil_append, List.length_nil] at *
        have hget : ∀ (h : 1 < (bs (37 :: c :: r)).size), (bs (37 :: c :: r))[1] = c := fun h => by rw [bs_get]; rfl
        simp only [List.length_cons] at hsz hlen hn hm
        have HE := Lib.hid (show (bs (37 :: c :: r)).extract 2 (r.length + 1 + 1) = bs r by rw [bs_extract]; simp)
        generalize bs (37 :: c :: r) = s2 at *
        go_wp2_with (first | (go_at_call 43; refine (HI _).mono ?_; rintro e wr ⟨rfl, rfl⟩))
        have hr1 : (1 : Int) < (r.length : Int) + 1 + 1 := by omega
        have LK1 := LK _ (HL.out.trans (b := wr) (c := wr.drew) ⟨rfl, rfl, rfl, Nat.le_refl _, fun _ _ => rfl⟩)
        go_region_law (first | (go_simp; refine LK1.mono ?_; rintro e w1 ⟨v1, rfl, hv1, hb1⟩; obtain ⟨t1, z1, rfl⟩ := hv1.shape; have V1 := Lib.hid hv1; have B1 := Lib.hid hb1; clear hv1 hb1; dsimp only))
        all_goals
          have D1 : Below wr.heap.size wr w1 := (below_drewC wr).trans B1.out
          go_wp2_with (fail)
          refine (hspec_any ((D1.block hb (by have := hclt; omega)).trans HB.out) (HC.out.keep D1) V1.out HA.out.2 (by omega) (by omega)).mono ?_
          rintro e w2 ⟨rfl, lv1, pv1, pc1, xs1, aps1, k1, k2, k3, k4⟩
          have KK := Lib.hid (And.intro k1 (And.intro k2 (And.intro k3 k4)))
          have DD := Lib.hid D1
          clear k1 k2 k3 k4 D1
          dsimp only
          go_wp2
          obtain ⟨k1, k2, k3, k4⟩ := KK.out
          obtain ⟨f1, f2, f3, f4⟩ := HX.out
          rw [HE.out]
          exact ⟨⟨r, x2, x ++ x1, lv1, pv1, pc1, xs1, aps1, rfl, rfl, f2, f3, by rw [f4, List.append_assoc], (k4.block hb hlt).trans ((DD.out.block hb (by have := hclt; omega)).trans HB.out), k1, by omega, by omega, HL.out.trans ((DD.out.mono (by have := HL.out.size; omega)).trans (k4.mono (by omega)))⟩, by simp [lenOfT]; omega⟩
      · have hge := List.length_pos_iff.2 hpre
        have hpok : ∀ c ∈ pre, okCh c = true := fun c hc => (hp c hc).1
        have hex1 : (bs (pre ++ 37 :: c :: r)).extract 0 pre.length = bs pre := by rw [bs_extract]; simp
        have hex2 : (bs (pre ++ 37 :: c :: r)).extract pre.length (pre ++ 37 :: c :: r).length = bs (37 :: c :: r) := by rw [bs_extract]; simp
        have HE := Lib.hid (show (bs (37 :: c :: r)).extract 2 (r.length + 1 + 1) = bs r by rw [bs_extract]; simp)
        have hget : ∀ (h : 1 < (bs (37 :: c :: r)).size), (bs (37 :: c :: r))[1] = c := fun h => by rw [bs_get]; rfl
        have hsz3 := bs_size (37 :: c :: r)
        have hN : (pre ++ 37 :: c :: r).length = pre.length + r.length + 2 := by simp; omega
        have HV := fun (wq : World) (hq : Below wr.heap.size wr wq) => hverb_any (w := wq) pre ((hq.block hb (by have := hclt; omega)).trans HB.out) (HC.out.keep hq) hpok (by omega) (by omega)
        simp only [List.length_cons] at hsz3
        generalize (pre ++ 37 :: c :: r).length = N at *
        generalize bs (pre ++ 37 :: c :: r) = s2 at *
        generalize bs (37 :: c :: r) = s3 at *
        generalize hm0 : pre.length = m at *
        have c1 : ((m : Int) == (N : Int) - 1) = false := by rw [beq_eq_false_iff_ne]; omega
        have c2 : ¬ (m : Int) < 0 := by omega
        have c3 : (0 : Int) < (m : Int) := by omega
        have c4 : (0 : Int) < (N : Int) := by omega
        have c5 : m ≤ N := by omega
        have c6 : (m : Int) ≤ (N : Int) := by omega
        have LK1 := HV _ (below_drewC wr)
        have hr1 : (1 : Int) < (r.length : Int) + 1 + 1 := by omega
        generalize bs pre = sp at *
        have HN := Lib.hid hN
        clear hN hge
        go_wp2_with (first | (go_at_call 43; refine (HI _).mono ?_; rintro e wr ⟨rfl, rfl⟩))
        go_region_law (first | (go_simp; refine LK1.mono ?_; rintro e w1 ⟨rfl, lv1, pv1, pc1, xs1, aps1, k1, k2, k3, k4⟩; have KK := Lib.hid (And.intro k1 (And.intro k2 (And.intro k3 k4))); clear k1 k2 k3 k4; dsimp only))
        all_goals
          go_wp2
          have D0 := Lib.hid (show Below w0.heap.size wr w1 from ((below_drewC wr).mono (by have := HL.out.size; omega)).trans (KK.out.2.2.2.mono (by omega)))
          have LK2 := LK _ ((HL.out.trans D0.out).trans (b := w1) (c := w1.drew) ⟨rfl, rfl, rfl, Nat.le_refl _, fun _ _ => rfl⟩)
          go_region_law (first | (go_simp; refine LK2.mono ?_; rintro e w2 ⟨v2, rfl, hv2, hb2⟩; obtain ⟨t2, z2, rfl⟩ := hv2.shape; have V2 := Lib.hid hv2; have B2 := Lib.hid hb2; clear hv2 hb2; dsimp only))
          all_goals
            have D1 : Below w1.heap.size w1 w2 := (below_drewC w1).trans B2.out
            obtain ⟨k1, k2, k3, k4⟩ := KK.out
            have l1 := k1.lt
            have HB2 : BuilderAt w1 hb ca := (k4.block hb hlt).trans HB.out
            go_wp2_with (fail)
            refine (hspec_any ((D1.block hb (by omega)).trans HB2) (k1.keep D1) V2.out HA.out.2 (by have := HN.out; omega) (by have := HN.out; omega)).mono ?_
            rintro e w3 ⟨rfl, lv3, pv3, pc3, xs3, aps3, j1, j2, j3, j4⟩
            have JJ := Lib.hid (And.intro j1 (And.intro j2 (And.intro j3 j4)))
            have DD := Lib.hid D1
            clear j1 j2 j3 j4 D1 k1 k2 k3 k4
            dsimp only
            go_wp2
            obtain ⟨k1, k2, k3, k4⟩ := KK.out
            obtain ⟨j1, j2, j3, j4⟩ := JJ.out
            obtain ⟨f1, f2, f3, f4⟩ := HX.out
            have HNN := HN.out
            rw [HE.out]
            exact ⟨⟨r, x2, x ++ pre ++ x1, lv3, pv3, pc3, xs3, aps3, rfl, rfl, f2, f3, by rw [f4]; simp [List.append_assoc], (j4.block hb hlt).trans ((DD.out.block hb (by omega)).trans HB2), j1, by omega, by omega, (HL.out.trans D0.out).trans ((DD.out.mono (by have := HL.out.size; have := D0.out.size; omega)).trans (j4.mono (by omega)))⟩, by simp [lenOfT]; omega⟩
end Go.Proofs.YtkcgngpoegglnaaGreatDoor
end
/- The first package: a format is made ready (New). -/
section
namespace Go.Proofs.YtkcgngpoegglnaaGreatDoor
open Go Go.RowKit
set_option linter.unusedVariables false
set_option linter.unusedSimpArgs false

/-- a format that was made ready, in block f: its appenders write y. -/
def ReadyAt (w : World) (T : STime) (f : Nat) (l : List UInt8) (y : List UInt8) : Prop :=
  ∃ ca lv xs aps, w.heap[f]? = some (.cells #[.string (bs l), lv] 78 (0, 0)) ∧ w.ownsRow (ca + 1) 72 1 lv xs.length xs ∧ Apps w T xs aps y ∧ xs.length ≤ 100 ∧ apsLen aps ≤ 960

/-- the end of the call that makes a format ready. -/
def NewPost (w : World) (T : STime) (l y : List UInt8) (e : Ending) (w' : World) : Prop :=
  ∃ f, e = .returned (.tuple #[.pointer (some ⟨f, 0, none⟩), .nilIface]) ∧ ReadyAt w' T f l y ∧ Below w.heap.size w w'

theorem cat_new (w : World) (T : STime) : CAt (w.alloc (.cells #[.slice none 0 0, .nilIface, .bool false] 74)) T w.heap.size (.slice none 0 0) .nilIface false [] [] [] :=
  ⟨new_block w _, World.ownsRow_nil _ _ _ _, rfl, by simp, by simp, .inl rfl⟩

set_option maxRecDepth 100000 in
theorem new_any (T : STime) (hR : RightT T) (w : World) (l y : List UInt8) (hx : textF T l = some y) (hf : firstF l = true) (hl : l.length ≤ 60) :
    Calls Tryz.prog 16 #[.string (bs l), .slice none 0 0] w (NewPost w T l y) := by
  have HC := fun (w0 w : World) (hb ca S : Nat) => compile_any T hR w0 w hb ca S l y hx hf hl
  have HB : bs l = bs l := rfl
  clear hx hf
  generalize hs : bs l = s at *
  go_enter Tryz.func16, Tryz.ntmps16
  go_wp2_with (fail)
  go_at_call 31
  refine (getSet_any _).mono ?_
  rintro e w1 ⟨S, rfl, hst, hbl, hge⟩
  have ST := Lib.hid hst
  have BL := Lib.hid hbl
  clear hst hbl
  dsimp only
  go_wp2_with (fail)
  have hcat := cat_new (w1.alloc (Obj.cells #[Value.pointer (some { block := w1.heap.size + 1, off := 0 })] 68)) T
  simp only [World.size_alloc] at hcat
  have hbl : Below w1.heap.size w1 ((w1.alloc (Obj.cells #[Value.pointer (some { block := w1.heap.size + 1, off := 0 })] 68)).alloc (Obj.cells #[Value.slice none 0 0, Value.nilIface, Value.bool false] 74)) := ((Below.refl _ _).alloc (Nat.le_refl _) _).alloc (by simp) _
  refine (HC w1 _ w1.heap.size (w1.heap.size + 1) S ST.out (Nat.le_refl _) (Nat.lt_succ_self _) (by show ((w1.heap.push _).push _)[w1.heap.size]? = _; rw [Array.getElem?_push_lt (by simp)]; simp) _ _ hcat hbl).mono ?_
  rintro e w2 ⟨rfl, lv, pv, pc, xs, aps, hca, hn, hm, hb, h0⟩
  have c0 := cell_of_row w2 (w1.heap.size + 1) 0 _ _ _ hca.at_
  have d0 := cell_of_one hb
  simp only [List.getElem?_toArray, List.getElem?_cons_zero] at c0
  have hlt := hca.lt
  have hlt2 := lt_of_block hb
  obtain ⟨ad, n, cap, rfl⟩ : ∃ ad n cap, lv = .slice ad n cap := by
    rcases hca.own.2 with ⟨e, _⟩ | ⟨g, cap, cur, e, _⟩
    · exact ⟨_, _, _, e⟩
    · exact ⟨_, _, _, e⟩
  have HCA := Lib.hid hca
  have H0 := Lib.hid h0
  clear hca h0 hbl hcat hb
  dsimp only
  go_wp2
  go_ret2
  have hb2 : Below w2.heap.size w2 (w2.alloc (.cells #[.string s, .slice ad n cap] 78)) := (Below.refl _ _).alloc (Nat.le_refl _) _
  exact ⟨w2.heap.size, rfl, ⟨w1.heap.size + 1, _, xs, aps, by rw [hs]; exact new_block _ _, own_keep HCA.out.own hb2, (HCA.out.keep hb2).is, hn, hm⟩, (BL.out.trans (H0.out.mono BL.out.size)).trans (hb2.mono (Nat.le_trans BL.out.size H0.out.size))⟩
end Go.Proofs.YtkcgngpoegglnaaGreatDoor
end
