/- The first package: what a format is made of (printed by gen_firc.py). · The first package: the builder's two methods, and the look-up of a directive. · The reference: which formats the first package is asked. -/
import Derived.Lib.Bytealg
import Derived.Test.YtkcgngpoegglnaaGreatDoorM21
import Derived.Test.YtkcgngpoegglnaaGreatDoorM15
import Derived.Test.YtkcgngpoegglnaaGreatDoorM22
import Derived.LoopTactic
/- The first package: what a format is made of (printed by gen_firc.py). -/
section
namespace Go.Proofs.YtkcgngpoegglnaaGreatDoor
open Go
set_option linter.unusedVariables false
set_option linter.unusedSimpArgs false

/-- a letter that a format of the first package may have. -/
def litF (b : UInt8) : Bool := b == 32 || b == 45 || b == 58 || b == 47

/-- the formats of the first package. -/
def firstF : List UInt8 → Bool
  | [] => true
  | [b] => b == 37 || litF b
  | b :: c :: r => if b = 37 then (!(c == 103 || c == 71)) && firstF r else litF b && firstF (c :: r)

theorem litF_ok {b : UInt8} (h : litF b = true) : okCh b = true ∧ b ≠ 37 := by
  simp only [litF, Bool.or_eq_true, beq_iff_eq] at h
  rcases h with ((rfl | rfl) | rfl) | rfl <;> decide

theorem firstF_lit {b : UInt8} {r : List UInt8} (h : firstF (b :: r) = true) (hb : b ≠ 37) : litF b = true ∧ firstF r = true := by
  cases r with
  | nil => simp [firstF, hb] at h; exact ⟨h, rfl⟩
  | cons c r => rw [firstF, if_neg hb, Bool.and_eq_true] at h; exact h

/-- a format is letters, or letters, a directive and a format. -/
theorem split_fmt {T : STime} : ∀ (l y : List UInt8), textF T l = some y → firstF l = true →
    ((∀ c ∈ l, okCh c = true ∧ c ≠ 37) ∧ y = l) ∨ ∃ pre c r x1 x2, l = pre ++ 37 :: c :: r ∧ (∀ b ∈ pre, okCh b = true ∧ b ≠ 37) ∧ oneF T c = some x1 ∧ c ≠ 103 ∧ c ≠ 71 ∧ textF T r = some x2 ∧ firstF r = true ∧ y = pre ++ (x1 ++ x2)
  | [], y, h, _ => by
    rw [textF] at h
    exact .inl ⟨by simp, (Option.some.inj h).symm⟩
  | b :: l, y, h, hf => by
    by_cases hb : b = 37
    · subst hb
      obtain ⟨c, r, x1, x2, rfl, h1, h2, rfl⟩ := textF_dir h
      rw [firstF, if_pos rfl, Bool.and_eq_true] at hf
      have hc := hf.1
      refine .inr ⟨[], c, r, x1, x2, rfl, by simp, h1, ?_, ?_, h2, hf.2, rfl⟩
      · rintro rfl; exact absurd hc (by decide)
      · rintro rfl; exact absurd hc (by decide)
    · obtain ⟨x', rfl, hx, _⟩ := textF_lit h hb
      obtain ⟨hl, hf2⟩ := firstF_lit hf hb
      have hok := litF_ok hl
      rcases split_fmt l x' hx hf2 with ⟨hall, rfl⟩ | ⟨pre, c, r, x1, x2, rfl, hp, h1, h2, h3, h4, h5, rfl⟩
      · refine .inl ⟨?_, rfl⟩
        intro c hc
        rcases List.mem_cons.1 hc with rfl | hc
        · exact hok
        · exact hall c hc
      · refine .inr ⟨b :: pre, c, r, x1, x2, rfl, ?_, h1, h2, h3, h4, h5, rfl⟩
        intro c hc
        rcases List.mem_cons.1 hc with rfl | hc
        · exact hok
        · exact hp c hc

theorem index_none : ∀ (l : List UInt8), (∀ c ∈ l, c ≠ 37) → Lib.indexByte l 37 = -1
  | [], _ => rfl
  | b :: l, h => by
    have hb : (b == 37) = false := by simpa using h b List.mem_cons_self
    rw [Lib.indexByte, hb, index_none l fun c hc => h c (List.mem_cons_of_mem _ hc)]
    rfl

theorem index_at : ∀ (pre r : List UInt8), (∀ c ∈ pre, c ≠ 37) → Lib.indexByte (pre ++ 37 :: r) 37 = pre.length
  | [], r, _ => by simp [Lib.indexByte]
  | b :: l, r, h => by
    have hb : (b == 37) = false := by simpa using h b List.mem_cons_self
    rw [List.cons_append, Lib.indexByte, hb, index_at l r fun c hc => h c (List.mem_cons_of_mem _ hc)]
    have : (((l.length : Int) == -1) = true) = False := by simp
    simp only [Bool.false_eq_true, if_false, this, List.length_cons]
    rfl

theorem okAtoms_of {l : List Atom} (h : l.all Atom.ok = true) : okAtoms l := fun a ha => List.all_eq_true.1 h a ha

/-- each directive's appender. -/
theorem spec_ok {T : STime} (h : RightT T) (c : UInt8) (x : List UInt8) (hx : oneF T c = some x) (hg : c ≠ 103) (hG : c ≠ 71) : ∃ a, specL.lookup c = some a ∧ ApOK T a x ∧ a.len ≤ 32 := by
  by_cases h97 : c = 97
  · subst h97
    have e := one_atoms h 97 [.el .mon] rfl
    rw [hx] at e
    obtain rfl := Option.some.inj e
    exact ⟨_, rfl, .std [.el .mon] (okAtoms_of (by decide)) (by simp [no002]), by decide⟩
  by_cases h65 : c = 65
  · subst h65
    have e := one_atoms h 65 [.el .monday] rfl
    rw [hx] at e
    obtain rfl := Option.some.inj e
    exact ⟨_, rfl, .std [.el .monday] (okAtoms_of (by decide)) (by simp [no002]), by decide⟩
  by_cases h98 : c = 98
  · subst h98
    have e := one_atoms h 98 [.el .jan] rfl
    rw [hx] at e
    obtain rfl := Option.some.inj e
    exact ⟨_, rfl, .std [.el .jan] (okAtoms_of (by decide)) (by simp [no002]), by decide⟩
  by_cases h104 : c = 104
  · subst h104
    have e := one_atoms h 104 [.el .jan] rfl
    rw [hx] at e
    obtain rfl := Option.some.inj e
    exact ⟨_, rfl, .std [.el .jan] (okAtoms_of (by decide)) (by simp [no002]), by decide⟩
  by_cases h66 : c = 66
  · subst h66
    have e := one_atoms h 66 [.el .january] rfl
    rw [hx] at e
    obtain rfl := Option.some.inj e
    exact ⟨_, rfl, .std [.el .january] (okAtoms_of (by decide)) (by simp [no002]), by decide⟩
  by_cases h100 : c = 100
  · subst h100
    have e := one_atoms h 100 [.el .z2] rfl
    rw [hx] at e
    obtain rfl := Option.some.inj e
    exact ⟨_, rfl, .std [.el .z2] (okAtoms_of (by decide)) (by simp [no002]), by decide⟩
  by_cases h68 : c = 68
  · subst h68
    have e := one_atoms h 68 [.el .z1, .ch 47, .el .z2, .ch 47, .el .z6] rfl
    rw [hx] at e
    obtain rfl := Option.some.inj e
    exact ⟨_, rfl, .std [.el .z1, .ch 47, .el .z2, .ch 47, .el .z6] (okAtoms_of (by decide)) (by simp [no002]), by decide⟩
  by_cases h101 : c = 101
  · subst h101
    have e := one_atoms h 101 [.el .u2] rfl
    rw [hx] at e
    obtain rfl := Option.some.inj e
    exact ⟨_, rfl, .std [.el .u2] (okAtoms_of (by decide)) (by simp [no002]), by decide⟩
  by_cases h70 : c = 70
  · subst h70
    have e := one_atoms h 70 [.el .y4, .ch 45, .el .z1, .ch 45, .el .z2] rfl
    rw [hx] at e
    obtain rfl := Option.some.inj e
    exact ⟨_, rfl, .std [.el .y4, .ch 45, .el .z1, .ch 45, .el .z2] (okAtoms_of (by decide)) (by simp [no002]), by decide⟩
  by_cases h72 : c = 72
  · subst h72
    have e := one_atoms h 72 [.el .h15] rfl
    rw [hx] at e
    obtain rfl := Option.some.inj e
    exact ⟨_, rfl, .std [.el .h15] (okAtoms_of (by decide)) (by simp [no002]), by decide⟩
  by_cases h73 : c = 73
  · subst h73
    have e := one_atoms h 73 [.el .z3] rfl
    rw [hx] at e
    obtain rfl := Option.some.inj e
    exact ⟨_, rfl, .std [.el .z3] (okAtoms_of (by decide)) (by simp [no002]), by decide⟩
  by_cases h109 : c = 109
  · subst h109
    have e := one_atoms h 109 [.el .z1] rfl
    rw [hx] at e
    obtain rfl := Option.some.inj e
    exact ⟨_, rfl, .std [.el .z1] (okAtoms_of (by decide)) (by simp [no002]), by decide⟩
  by_cases h77 : c = 77
  · subst h77
    have e := one_atoms h 77 [.el .z4] rfl
    rw [hx] at e
    obtain rfl := Option.some.inj e
    exact ⟨_, rfl, .std [.el .z4] (okAtoms_of (by decide)) (by simp [no002]), by decide⟩
  by_cases h112 : c = 112
  · subst h112
    have e := one_atoms h 112 [.el .pm] rfl
    rw [hx] at e
    obtain rfl := Option.some.inj e
    exact ⟨_, rfl, .std [.el .pm] (okAtoms_of (by decide)) (by simp [no002]), by decide⟩
  by_cases h82 : c = 82
  · subst h82
    have e := one_atoms h 82 [.el .h15, .ch 58, .el .z4] rfl
    rw [hx] at e
    obtain rfl := Option.some.inj e
    exact ⟨_, rfl, .std [.el .h15, .ch 58, .el .z4] (okAtoms_of (by decide)) (by simp [no002]), by decide⟩
  by_cases h83 : c = 83
  · subst h83
    have e := one_atoms h 83 [.el .z5] rfl
    rw [hx] at e
    obtain rfl := Option.some.inj e
    exact ⟨_, rfl, .std [.el .z5] (okAtoms_of (by decide)) (by simp [no002]), by decide⟩
  by_cases h84 : c = 84
  · subst h84
    have e := one_atoms h 84 [.el .h15, .ch 58, .el .z4, .ch 58, .el .z5] rfl
    rw [hx] at e
    obtain rfl := Option.some.inj e
    exact ⟨_, rfl, .std [.el .h15, .ch 58, .el .z4, .ch 58, .el .z5] (okAtoms_of (by decide)) (by simp [no002]), by decide⟩
  by_cases h121 : c = 121
  · subst h121
    have e := one_atoms h 121 [.el .z6] rfl
    rw [hx] at e
    obtain rfl := Option.some.inj e
    exact ⟨_, rfl, .std [.el .z6] (okAtoms_of (by decide)) (by simp [no002]), by decide⟩
  by_cases h89 : c = 89
  · subst h89
    have e := one_atoms h 89 [.el .y4] rfl
    rw [hx] at e
    obtain rfl := Option.some.inj e
    exact ⟨_, rfl, .std [.el .y4] (okAtoms_of (by decide)) (by simp [no002]), by decide⟩
  by_cases h122 : c = 122
  · subst h122
    have e := one_atoms h 122 [.el .tz] rfl
    rw [hx] at e
    obtain rfl := Option.some.inj e
    exact ⟨_, rfl, .std [.el .tz] (okAtoms_of (by decide)) (by simp [no002]), by decide⟩
  by_cases h90 : c = 90
  · subst h90
    have e := one_atoms h 90 [.el .mst] rfl
    rw [hx] at e
    obtain rfl := Option.some.inj e
    exact ⟨_, rfl, .std [.el .mst] (okAtoms_of (by decide)) (by simp [no002]), by decide⟩
  by_cases h110 : c = 110
  · subst h110
    simp [oneF] at hx
    subst hx
    exact ⟨_, rfl, .verb [10] (by decide), by decide⟩
  by_cases h116 : c = 116
  · subst h116
    simp [oneF] at hx
    subst hx
    exact ⟨_, rfl, .verb [9] (by decide), by decide⟩
  by_cases h37 : c = 37
  · subst h37
    simp [oneF] at hx
    subst hx
    exact ⟨_, rfl, .verb [37] (by decide), by decide⟩
  by_cases h67 : c = 67
  · subst h67
    simp [oneF] at hx
    subst hx
    exact ⟨_, rfl, .cent, by decide⟩
  by_cases h106 : c = 106
  · subst h106
    simp [oneF] at hx
    subst hx
    exact ⟨_, rfl, .yday, by decide⟩
  by_cases h86 : c = 86
  · subst h86
    simp [oneF] at hx
    subst hx
    exact ⟨_, rfl, .week, by decide⟩
  by_cases h119 : c = 119
  · subst h119
    simp [oneF] at hx
    subst hx
    exact ⟨_, rfl, .wd0, by decide⟩
  by_cases h117 : c = 117
  · subst h117
    simp [oneF] at hx
    subst hx
    exact ⟨_, rfl, .wd1, by decide⟩
  by_cases h85 : c = 85
  · subst h85
    simp [oneF] at hx
    subst hx
    exact ⟨_, rfl, .wkS, by decide⟩
  by_cases h87 : c = 87
  · subst h87
    simp [oneF] at hx
    subst hx
    exact ⟨_, rfl, .wkM, by decide⟩
  exfalso
  simp [oneF, *] at hx
end Go.Proofs.YtkcgngpoegglnaaGreatDoor
end
/- The first package: the builder's two methods, and the look-up of a directive. -/
section
namespace Go.Proofs.YtkcgngpoegglnaaGreatDoor
open Go Go.RowKit
set_option linter.unusedVariables false
set_option linter.unusedSimpArgs false

/-- the builder in block hb, its list in block ca. -/
def BuilderAt (w : World) (hb ca : Nat) : Prop := w.heap[hb]? = some (.cells #[.pointer (some ⟨ca, 0, none⟩)] 68 (0, 0))

section
variable {w : World} {T : STime} {hb ca : Nat} {lv pv v : Value} {pc : Bool} {xs : List Value} {aps : List Ap} {a : Ap} {x y : List UInt8}

set_option maxRecDepth 100000 in
theorem hspec_any (hB : BuilderAt w hb ca) (h : CAt w T ca lv pv pc xs aps x) (hv : ApIs w v a) (hok : ApOK T a y) (hn : xs.length ≤ 1000) (hl : apsLen aps + a.len ≤ 1000) :
    Calls Tryz.prog 208 #[.pointer (some ⟨hb, 0, none⟩), v] w (AddedPost w T ca (xs.length + 1) (apsLen aps + a.len) (x ++ y)) := by
  have hc := cell_of_one hB
  have hlt := lt_of_block hB
  have H := add_any h hv hok hn hl
  clear h hok
  go_enter Tryz.func208, Tryz.ntmps208
  go_wp2_with (fail)
  go_at_call 207
  refine H.mono ?_
  rintro e w' ⟨rfl, R⟩
  dsimp only
  have RR := Lib.hid R
  clear R
  go_wp2
  exact bodyPost_end (results_none (by rfl) _ _ _) rfl ⟨rfl, RR.out⟩

set_option maxRecDepth 100000 in
theorem hverb_any (s : List UInt8) (hB : BuilderAt w hb ca) (h : CAt w T ca lv pv pc xs aps x) (hs : ∀ c ∈ s, okCh c = true) (hn : xs.length ≤ 1000) (hl : apsLen aps + s.length ≤ 1000) :
    Calls Tryz.prog 209 #[.pointer (some ⟨hb, 0, none⟩), .string (bs s)] w (AddedPost w T ca (xs.length + 1) (apsLen aps + s.length) (x ++ s)) := by
  have hc := cell_of_one hB
  have hlt := lt_of_block hB
  have hlt2 := h.lt
  have HH := Lib.hid h
  clear h
  go_enter Tryz.func209, Tryz.ntmps209
  go_region_law (first | (go_simp; go_at_call 182; refine (verbatim_any s _).mono ?_; rintro e w1 ⟨v1, rfl, ha, hb1⟩; have hcb := cell_of_one ((hb1.block hb hlt).trans hB); have RR := Lib.hid ((add_any (T := T) ((HH.out.keep (below_drewC _)).keep hb1) ha (.verb s hs) hn hl)); have BB := Lib.hid ((below_drewC w).trans hb1); dsimp only) | (go_simp; go_at_call 207; refine RR.out.mono ?_; rintro e w2 ⟨rfl, R2⟩; have R3 := Lib.hid R2; clear R2; dsimp only))
  all_goals
    go_wp2
    obtain ⟨lv', pv', pc', xs', aps', k1, k2, k3, k4⟩ := R3.out
    exact bodyPost_end (results_none (by rfl) _ _ _) rfl ⟨rfl, lv', pv', pc', xs', aps', k1, k2, k3, (BB.out.mono (Nat.le_of_lt hlt2)).trans k4⟩

set_option maxRecDepth 100000 in
theorem lookup_any (S c : Nat) (f : Nat → Option Ap) (h : StoreAt w S false f) (hc : c < 256) (hf : f c = some a) :
    Calls Tryz.prog 211 #[.pointer (some ⟨S, 0, none⟩), .int .u8 c] w (fun e w' => ∃ v, e = .returned (.tuple #[v, .nilIface]) ∧ ApIs w' v a ∧ Below w.heap.size w w') := by
  obtain ⟨C, hS, hz, h0, hcells⟩ := h.h
  obtain ⟨u, hu, hcell⟩ := hcells c hc
  rw [hf] at hcell
  have hcell' : ApIs w u a := hcell
  have hlt := lt_of_block hS
  have hcc : w.cell? ⟨S, 1 + c, none⟩ = some u := by
    rw [cell_of_row w S (1 + c) C 104 (0, 0) hS]; exact hu
  obtain ⟨t, z, rfl⟩ := hcell'.shape
  have HH := Lib.hid hcell'
  have h1 : (0 : Int) ≤ (c : Int) := by omega
  have h2 : (c : Int) < 256 := by omega
  clear hcell hcell' hS h0 hcells hu hf h
  go_enter Tryz.func211, Tryz.ntmps211
  go_wp2
  go_ret2
  exact ⟨_, rfl, HH.out, Below.refl _ _⟩
end
end Go.Proofs.YtkcgngpoegglnaaGreatDoor
end
/- The reference: which formats the first package is asked. -/
section
namespace Go.Proofs.YtkcgngpoegglnaaGreatDoor
open Go Go.RowKit
set_option linter.unusedVariables false
set_option linter.unusedSimpArgs false

/-- what holds at the head of a round. -/
def FirstI (l : List UInt8) (w0 : World) (t3 : Value) (w : World) : Prop := ∃ i : Nat, t3 = .int .i64 i ∧ i ≤ l.length + 1 ∧ firstF l = firstF (l.drop i) ∧ w = w0

theorem firstF_bad {b : UInt8} {r : List UInt8} (hb : b ≠ 37) (h : litF b = false) : firstF (b :: r) = false := by
  cases r with
  | nil => simp [firstF, hb, h]
  | cons c r => rw [firstF, if_neg hb, h]; rfl
theorem firstF_good {b : UInt8} {r : List UInt8} (hb : b ≠ 37) (h : litF b = true) : firstF (b :: r) = firstF r := by
  cases r with
  | nil => simp [firstF, hb, h]
  | cons c r => rw [firstF, if_neg hb, h]; rfl

set_option maxRecDepth 100000 in
set_option maxHeartbeats 8000000 in
theorem first_sp (l : List UInt8) (hl : l.length ≤ 2147483647) (w : World) : Calls Tryz.prog 10 #[.string (bs l)] w fun e w' => e = .returned (.bool (firstF l)) ∧ w = w' := by
  have hsz := bs_size l
  go_enter Tryz.func10, Tryz.ntmps10
  go_wp2
  go_loopw [3] (fun t3 wr => FirstI l w t3 wr) (fun t3 _ => l.length + 1 - (intOf t3).toNat)
  case atStart => exact ⟨0, rfl, Nat.zero_le _, rfl, rfl⟩
  case round =>
    obtain ⟨i, rfl, hi, hrest, rfl⟩ := hrel
    by_cases hlt : i < l.length
    · have hd : l.drop i = l[i] :: l.drop (i + 1) := List.drop_eq_getElem_cons hlt
      obtain ⟨b, hb⟩ : ∃ b, b = l[i] := ⟨_, rfl⟩
      rw [← hb] at hd
      have hget : ∀ (h : i < (bs l).size), (bs l)[i] = b := fun h => by rw [bs_get, hb]
      have hlti : (i : Int) < (l.length : Int) := by omega
      have hb255 := UInt8.toNat_lt b
      rw [hd] at hrest
      clear hb
      by_cases b37 : b = 37
      · have bq : ((b.toNat : Int) != 37) = false := by subst b37; rfl
        by_cases hend : i + 1 < l.length
        · have hlt2 : (i : Int) + 1 < (l.length : Int) := by omega
          have hlt3 : (0 : Int) ≤ (i : Int) + 1 := by omega
          have hd2 : l.drop (i + 1) = l[i + 1] :: l.drop (i + 1 + 1) := List.drop_eq_getElem_cons hend
          obtain ⟨c, hc⟩ : ∃ c, c = l[i + 1] := ⟨_, rfl⟩
          rw [← hc] at hd2
          have hget2 : ∀ (h : i + 1 < (bs l).size), (bs l)[i + 1] = c := fun h => by rw [bs_get, hc]
          rw [hd2, b37, firstF, if_pos rfl] at hrest
          clear hc hd2 hd
          by_cases c103 : c = 103
          · have cq : ((c.toNat : Int) == 103) = true := by subst c103; rfl
            have hN : firstF l = false := by rw [hrest, c103]; rfl
            have HN := Lib.hid hN
            clear hrest hN
            go_wp2
            go_ret
            refine ⟨?_, rfl⟩
            rw [HN.out]
            rfl
          by_cases c71 : c = 71
          · have cq : ((c.toNat : Int) == 103) = false := by subst c71; rfl
            have cq2 : ((c.toNat : Int) == 71) = true := by subst c71; rfl
            have hN : firstF l = false := by rw [hrest, c71]; rfl
            have HN := Lib.hid hN
            clear hrest hN
            go_wp2
            go_ret
            refine ⟨?_, rfl⟩
            rw [HN.out]
            rfl
          · have cq : ((c.toNat : Int) == 103) = false := by rw [beq_eq_false_iff_ne]; intro e; exact c103 (UInt8.toNat.inj (show c.toNat = 103 by omega))
            have cq2 : ((c.toNat : Int) == 71) = false := by rw [beq_eq_false_iff_ne]; intro e; exact c71 (UInt8.toNat.inj (show c.toNat = 71 by omega))
            have hN : firstF l = firstF (l.drop (i + 2)) := by rw [hrest]; simp [c103, c71]
            have HN := Lib.hid hN
            clear hrest hN
            go_wp2
            go_roundw
            case rel => exact ⟨i + 2, by go_num, by omega, HN.out, rfl⟩
            case measure => simp [intOf]; omega
        · have hlt2 : ¬ (i : Int) + 1 < (l.length : Int) := by omega
          have hN : firstF l = firstF (l.drop (i + 2)) := by
            rw [hrest, b37, List.drop_eq_nil_of_le (by omega : l.length ≤ i + 1), List.drop_eq_nil_of_le (by omega : l.length ≤ i + 2)]; rfl
          have HN := Lib.hid hN
          clear hrest hN hd
          go_wp2
          go_roundw
          case rel => exact ⟨i + 2, by go_num, by omega, HN.out, rfl⟩
          case measure => simp [intOf]; omega
      · have bq : ((b.toNat : Int) != 37) = true := by
          rw [bne_iff_ne]; intro e; exact b37 (UInt8.toNat.inj (show b.toNat = 37 by omega))
        have HB := Lib.hid b37
        have ne : ∀ d : Nat, d < 256 → b ≠ UInt8.ofNat d → ((b.toNat : Int) != (d : Int)) = true := fun d hd h => by
          rw [bne_iff_ne]; intro e; apply h; apply UInt8.toNat.inj; rw [UInt8.toNat_ofNat']; omega
        by_cases b32 : b = 32
        · have q1 : ((b.toNat : Int) != 32) = false := by subst b32; rfl
          have hN : firstF l = firstF (l.drop (i + 1)) := by rw [hrest, firstF_good b37 (by subst b32; rfl)]
          have HN := Lib.hid hN
          clear hrest hN hd ne
          go_wp2
          go_roundw
          case rel => exact ⟨i + 1, by go_num, by omega, HN.out, rfl⟩
          case measure => simp [intOf]; omega
        have q1 : ((b.toNat : Int) != 32) = true := ne 32 (by decide) b32
        by_cases b45 : b = 45
        · have q2 : ((b.toNat : Int) != 45) = false := by subst b45; rfl
          have hN : firstF l = firstF (l.drop (i + 1)) := by rw [hrest, firstF_good b37 (by subst b45; rfl)]
          have HN := Lib.hid hN
          clear hrest hN hd ne
          go_wp2
          go_roundw
          case rel => exact ⟨i + 1, by go_num, by omega, HN.out, rfl⟩
          case measure => simp [intOf]; omega
        have q2 : ((b.toNat : Int) != 45) = true := ne 45 (by decide) b45
        by_cases b58 : b = 58
        · have q3 : ((b.toNat : Int) != 58) = false := by subst b58; rfl
          have hN : firstF l = firstF (l.drop (i + 1)) := by rw [hrest, firstF_good b37 (by subst b58; rfl)]
          have HN := Lib.hid hN
          clear hrest hN hd ne
          go_wp2
          go_roundw
          case rel => exact ⟨i + 1, by go_num, by omega, HN.out, rfl⟩
          case measure => simp [intOf]; omega
        have q3 : ((b.toNat : Int) != 58) = true := ne 58 (by decide) b58
        by_cases b47 : b = 47
        · have q4 : ((b.toNat : Int) != 47) = false := by subst b47; rfl
          have hN : firstF l = firstF (l.drop (i + 1)) := by rw [hrest, firstF_good b37 (by subst b47; rfl)]
          have HN := Lib.hid hN
          clear hrest hN hd ne
          go_wp2
          go_roundw
          case rel => exact ⟨i + 1, by go_num, by omega, HN.out, rfl⟩
          case measure => simp [intOf]; omega
        have q4 : ((b.toNat : Int) != 47) = true := ne 47 (by decide) b47
        have hN : firstF l = false := by rw [hrest, firstF_bad b37 (by simp [litF, b32, b45, b58, b47])]
        have HN := Lib.hid hN
        clear hrest hN hd ne b37 b32 b45 b58 b47
        go_wp2
        go_ret
        refine ⟨?_, rfl⟩
        rw [HN.out]
        rfl
    · have hnl : ¬ (i : Int) < (l.length : Int) := by omega
      have hN : firstF l = true := by rw [hrest, List.drop_eq_nil_of_le (by omega)]; rfl
      have HN := Lib.hid hN
      clear hrest hN
      go_wp2
      go_ret
      refine ⟨?_, rfl⟩
      rw [HN.out]
      rfl
end Go.Proofs.YtkcgngpoegglnaaGreatDoor
end
