/- The first package: the map of the default specifications. -/
import Derived.Lib.Hide
import Derived.Outline
import Derived.Test.YtkcgngpoegglnaaGreatDoorM13
namespace Go.Proofs.YtkcgngpoegglnaaGreatDoor
open Go Go.RowKit
set_option linter.unusedVariables false
set_option linter.unusedSimpArgs false

/-- the default specifications. -/
def specL : List (UInt8 × Ap) := [(65, .std [77, 111, 110, 100, 97, 121]), (97, .std [77, 111, 110]), (66, .std [74, 97, 110, 117, 97, 114, 121]), (98, .std [74, 97, 110]), (67, .fn 178), (99, .std [77, 111, 110, 32, 74, 97, 110, 32, 95, 50, 32, 49, 53, 58, 48, 52, 58, 48, 53, 32, 50, 48, 48, 54]), (68, .std [48, 49, 47, 48, 50, 47, 48, 54]), (100, .std [48, 50]), (101, .std [95, 50]), (71, .fn 179), (103, .fn 180), (70, .std [50, 48, 48, 54, 45, 48, 49, 45, 48, 50]), (72, .std [49, 53]), (104, .std [74, 97, 110]), (73, .std [48, 51]), (106, .fn 181), (107, .other), (108, .other), (77, .std [48, 52]), (109, .std [48, 49]), (110, .verb [10]), (112, .std [80, 77]), (82, .std [49, 53, 58, 48, 52]), (114, .other), (83, .std [48, 53]), (84, .std [49, 53, 58, 48, 52, 58, 48, 53]), (116, .verb [9]), (85, .wk true), (117, .wd 1), (86, .fn 183), (118, .std [95, 50, 45, 74, 97, 110, 45, 50, 48, 48, 54]), (87, .wk false), (119, .wd 0), (88, .std [49, 53, 58, 48, 52, 58, 48, 53]), (120, .std [48, 49, 47, 48, 50, 47, 48, 54]), (89, .std [50, 48, 48, 54]), (121, .std [48, 54]), (90, .std [77, 83, 84]), (122, .std [45, 48, 55, 48, 48]), (37, .verb [37])]

/-- what has been done on the way: the map, and nothing else that was there. -/
def MapR (w0 : World) (M : Nat) (L : List (UInt8 × Ap)) (w : World) : Prop := MS w M L ∧ Below w0.heap.size w0 w ∧ w0.heap.size ≤ M

theorem MapR.call {w0 w w1 : World} {M : Nat} {L : List (UInt8 × Ap)} (h : MapR w0 M L w) (hb : Below w.heap.size w w1) : MapR w0 M L w1 :=
  ⟨h.1.below hb, h.2.1.trans (hb.mono h.2.1.size), h.2.2⟩
theorem MapR.ins {w0 w w1 : World} {M : Nat} {L L' : List (UInt8 × Ap)} (h : MapR w0 M L w) (h1 : MS w1 M L') (hg : w.grownBy w1 (some M)) : MapR w0 M L' w1 :=
  ⟨h1, h.2.1.trans ⟨hg.os, hg.tape, hg.output, hg.size, fun k hk => hg.block k (Nat.lt_of_lt_of_le hk h.2.1.size) (by intro e; cases e; have := h.2.2; omega)⟩, h.2.2⟩

theorem MapR.start (w : World) : MapR w w.heap.size [] (w.alloc (.map #[] 0)) :=
  ⟨⟨#[], 0, new_block w _, trivial⟩, (Below.refl _ _).alloc (Nat.le_refl _) _, Nat.le_refl _⟩

theorem fresh_all {c : UInt8} {L : List (UInt8 × Ap)} (h : L.all (fun p => p.1 != c) = true) : ∀ p ∈ L, p.1 ≠ c := fun p hp => by
  have := List.all_eq_true.1 h p hp
  simpa using this

set_option maxRecDepth 100000 in
set_option maxHeartbeats 4000000 in
theorem specs_any (w : World) : Calls Tryz.prog 122 #[] w fun e w' => ∃ M, e = .returned (.map (some M)) ∧ MapR w M specL w' := by
  have hmm := @run_makeMap Tryz.prog
  have R0 := Lib.hid (MapR.start w)
  go_enter Tryz.func122, Tryz.ntmps122
  go_wp2_with (fail)
  go_at_call 133
  refine (con_133 _).mono ?_
  rintro e w1 ⟨v1, rfl, ha, hb⟩
  dsimp only
  have R1 := Lib.hid (R0.out.call hb)
  have HA := Lib.hid ha
  clear ha hb R0
  go_step
  refine wpList_insert_u8 rfl _ _ _ rfl 65 (.std [77, 111, 110, 100, 97, 121]) ?_ ?_ ?_ R1.out.1 (fresh_all (by decide)) HA.out ?_
  · rfl
  · rfl
  · rfl
  intro w2 hms hgr
  have R0 := Lib.hid (R1.out.ins hms hgr)
  clear hms hgr R1 HA
  go_wp2_with (fail)
  go_at_call 134
  refine (con_134 _).mono ?_
  rintro e w1 ⟨v1, rfl, ha, hb⟩
  dsimp only
  have R1 := Lib.hid (R0.out.call hb)
  have HA := Lib.hid ha
  clear ha hb R0
  go_step
  refine wpList_insert_u8 rfl _ _ _ rfl 97 (.std [77, 111, 110]) ?_ ?_ ?_ R1.out.1 (fresh_all (by decide)) HA.out ?_
  · rfl
  · rfl
  · rfl
  intro w2 hms hgr
  have R0 := Lib.hid (R1.out.ins hms hgr)
  clear hms hgr R1 HA
  go_wp2_with (fail)
  go_at_call 135
  refine (con_135 _).mono ?_
  rintro e w1 ⟨v1, rfl, ha, hb⟩
  dsimp only
  have R1 := Lib.hid (R0.out.call hb)
  have HA := Lib.hid ha
  clear ha hb R0
  go_step
  refine wpList_insert_u8 rfl _ _ _ rfl 66 (.std [74, 97, 110, 117, 97, 114, 121]) ?_ ?_ ?_ R1.out.1 (fresh_all (by decide)) HA.out ?_
  · rfl
  · rfl
  · rfl
  intro w2 hms hgr
  have R0 := Lib.hid (R1.out.ins hms hgr)
  clear hms hgr R1 HA
  go_wp2_with (fail)
  go_at_call 136
  refine (con_136 _).mono ?_
  rintro e w1 ⟨v1, rfl, ha, hb⟩
  dsimp only
  have R1 := Lib.hid (R0.out.call hb)
  have HA := Lib.hid ha
  clear ha hb R0
  go_step
  refine wpList_insert_u8 rfl _ _ _ rfl 98 (.std [74, 97, 110]) ?_ ?_ ?_ R1.out.1 (fresh_all (by decide)) HA.out ?_
  · rfl
  · rfl
  · rfl
  intro w2 hms hgr
  have R0 := Lib.hid (R1.out.ins hms hgr)
  clear hms hgr R1 HA
  go_wp2_with (fail)
  go_at_call 137
  refine (con_137 _).mono ?_
  rintro e w1 ⟨v1, rfl, ha, hb⟩
  dsimp only
  have R1 := Lib.hid (R0.out.call hb)
  have HA := Lib.hid ha
  clear ha hb R0
  go_step
  refine wpList_insert_u8 rfl _ _ _ rfl 67 (.fn 178) ?_ ?_ ?_ R1.out.1 (fresh_all (by decide)) HA.out ?_
  · rfl
  · rfl
  · rfl
  intro w2 hms hgr
  have R0 := Lib.hid (R1.out.ins hms hgr)
  clear hms hgr R1 HA
  go_wp2_with (fail)
  go_at_call 138
  refine (con_138 _).mono ?_
  rintro e w1 ⟨v1, rfl, ha, hb⟩
  dsimp only
  have R1 := Lib.hid (R0.out.call hb)
  have HA := Lib.hid ha
  clear ha hb R0
  go_step
  refine wpList_insert_u8 rfl _ _ _ rfl 99 (.std [77, 111, 110, 32, 74, 97, 110, 32, 95, 50, 32, 49, 53, 58, 48, 52, 58, 48, 53, 32, 50, 48, 48, 54]) ?_ ?_ ?_ R1.out.1 (fresh_all (by decide)) HA.out ?_
  · rfl
  · rfl
  · rfl
  intro w2 hms hgr
  have R0 := Lib.hid (R1.out.ins hms hgr)
  clear hms hgr R1 HA
  go_wp2_with (fail)
  go_at_call 139
  refine (con_139 _).mono ?_
  rintro e w1 ⟨v1, rfl, ha, hb⟩
  dsimp only
  have R1 := Lib.hid (R0.out.call hb)
  have HA := Lib.hid ha
  clear ha hb R0
  go_step
  refine wpList_insert_u8 rfl _ _ _ rfl 68 (.std [48, 49, 47, 48, 50, 47, 48, 54]) ?_ ?_ ?_ R1.out.1 (fresh_all (by decide)) HA.out ?_
  · rfl
  · rfl
  · rfl
  intro w2 hms hgr
  have R0 := Lib.hid (R1.out.ins hms hgr)
  clear hms hgr R1 HA
  go_wp2_with (fail)
  go_at_call 140
  refine (con_140 _).mono ?_
  rintro e w1 ⟨v1, rfl, ha, hb⟩
  dsimp only
  have R1 := Lib.hid (R0.out.call hb)
  have HA := Lib.hid ha
  clear ha hb R0
  go_step
  refine wpList_insert_u8 rfl _ _ _ rfl 100 (.std [48, 50]) ?_ ?_ ?_ R1.out.1 (fresh_all (by decide)) HA.out ?_
  · rfl
  · rfl
  · rfl
  intro w2 hms hgr
  have R0 := Lib.hid (R1.out.ins hms hgr)
  clear hms hgr R1 HA
  go_wp2_with (fail)
  go_at_call 141
  refine (con_141 _).mono ?_
  rintro e w1 ⟨v1, rfl, ha, hb⟩
  dsimp only
  have R1 := Lib.hid (R0.out.call hb)
  have HA := Lib.hid ha
  clear ha hb R0
  go_step
  refine wpList_insert_u8 rfl _ _ _ rfl 101 (.std [95, 50]) ?_ ?_ ?_ R1.out.1 (fresh_all (by decide)) HA.out ?_
  · rfl
  · rfl
  · rfl
  intro w2 hms hgr
  have R0 := Lib.hid (R1.out.ins hms hgr)
  clear hms hgr R1 HA
  go_wp2_with (fail)
  go_at_call 142
  refine (con_142 _).mono ?_
  rintro e w1 ⟨v1, rfl, ha, hb⟩
  dsimp only
  have R1 := Lib.hid (R0.out.call hb)
  have HA := Lib.hid ha
  clear ha hb R0
  go_step
  refine wpList_insert_u8 rfl _ _ _ rfl 71 (.fn 179) ?_ ?_ ?_ R1.out.1 (fresh_all (by decide)) HA.out ?_
  · rfl
  · rfl
  · rfl
  intro w2 hms hgr
  have R0 := Lib.hid (R1.out.ins hms hgr)
  clear hms hgr R1 HA
  go_wp2_with (fail)
  go_at_call 143
  refine (con_143 _).mono ?_
  rintro e w1 ⟨v1, rfl, ha, hb⟩
  dsimp only
  have R1 := Lib.hid (R0.out.call hb)
  have HA := Lib.hid ha
  clear ha hb R0
  go_step
  refine wpList_insert_u8 rfl _ _ _ rfl 103 (.fn 180) ?_ ?_ ?_ R1.out.1 (fresh_all (by decide)) HA.out ?_
  · rfl
  · rfl
  · rfl
  intro w2 hms hgr
  have R0 := Lib.hid (R1.out.ins hms hgr)
  clear hms hgr R1 HA
  go_wp2_with (fail)
  go_at_call 144
  refine (con_144 _).mono ?_
  rintro e w1 ⟨v1, rfl, ha, hb⟩
  dsimp only
  have R1 := Lib.hid (R0.out.call hb)
  have HA := Lib.hid ha
  clear ha hb R0
  go_step
  refine wpList_insert_u8 rfl _ _ _ rfl 70 (.std [50, 48, 48, 54, 45, 48, 49, 45, 48, 50]) ?_ ?_ ?_ R1.out.1 (fresh_all (by decide)) HA.out ?_
  · rfl
  · rfl
  · rfl
  intro w2 hms hgr
  have R0 := Lib.hid (R1.out.ins hms hgr)
  clear hms hgr R1 HA
  go_wp2_with (fail)
  go_at_call 145
  refine (con_145 _).mono ?_
  rintro e w1 ⟨v1, rfl, ha, hb⟩
  dsimp only
  have R1 := Lib.hid (R0.out.call hb)
  have HA := Lib.hid ha
  clear ha hb R0
  go_step
  refine wpList_insert_u8 rfl _ _ _ rfl 72 (.std [49, 53]) ?_ ?_ ?_ R1.out.1 (fresh_all (by decide)) HA.out ?_
  · rfl
  · rfl
  · rfl
  intro w2 hms hgr
  have R0 := Lib.hid (R1.out.ins hms hgr)
  clear hms hgr R1 HA
  go_wp2_with (fail)
  go_at_call 136
  refine (con_136 _).mono ?_
  rintro e w1 ⟨v1, rfl, ha, hb⟩
  dsimp only
  have R1 := Lib.hid (R0.out.call hb)
  have HA := Lib.hid ha
  clear ha hb R0
  go_step
  refine wpList_insert_u8 rfl _ _ _ rfl 104 (.std [74, 97, 110]) ?_ ?_ ?_ R1.out.1 (fresh_all (by decide)) HA.out ?_
  · rfl
  · rfl
  · rfl
  intro w2 hms hgr
  have R0 := Lib.hid (R1.out.ins hms hgr)
  clear hms hgr R1 HA
  go_wp2_with (fail)
  go_at_call 146
  refine (con_146 _).mono ?_
  rintro e w1 ⟨v1, rfl, ha, hb⟩
  dsimp only
  have R1 := Lib.hid (R0.out.call hb)
  have HA := Lib.hid ha
  clear ha hb R0
  go_step
  refine wpList_insert_u8 rfl _ _ _ rfl 73 (.std [48, 51]) ?_ ?_ ?_ R1.out.1 (fresh_all (by decide)) HA.out ?_
  · rfl
  · rfl
  · rfl
  intro w2 hms hgr
  have R0 := Lib.hid (R1.out.ins hms hgr)
  clear hms hgr R1 HA
  go_wp2_with (fail)
  go_at_call 147
  refine (con_147 _).mono ?_
  rintro e w1 ⟨v1, rfl, ha, hb⟩
  dsimp only
  have R1 := Lib.hid (R0.out.call hb)
  have HA := Lib.hid ha
  clear ha hb R0
  go_step
  refine wpList_insert_u8 rfl _ _ _ rfl 106 (.fn 181) ?_ ?_ ?_ R1.out.1 (fresh_all (by decide)) HA.out ?_
  · rfl
  · rfl
  · rfl
  intro w2 hms hgr
  have R0 := Lib.hid (R1.out.ins hms hgr)
  clear hms hgr R1 HA
  go_wp2_with (fail)
  go_at_call 148
  refine (con_148 _).mono ?_
  rintro e w1 ⟨v1, rfl, ha, hb⟩
  dsimp only
  have R1 := Lib.hid (R0.out.call hb)
  have HA := Lib.hid ha
  clear ha hb R0
  go_step
  refine wpList_insert_u8 rfl _ _ _ rfl 107 (.other) ?_ ?_ ?_ R1.out.1 (fresh_all (by decide)) HA.out ?_
  · rfl
  · rfl
  · rfl
  intro w2 hms hgr
  have R0 := Lib.hid (R1.out.ins hms hgr)
  clear hms hgr R1 HA
  go_wp2_with (fail)
  go_at_call 149
  refine (con_149 _).mono ?_
  rintro e w1 ⟨v1, rfl, ha, hb⟩
  dsimp only
  have R1 := Lib.hid (R0.out.call hb)
  have HA := Lib.hid ha
  clear ha hb R0
  go_step
  refine wpList_insert_u8 rfl _ _ _ rfl 108 (.other) ?_ ?_ ?_ R1.out.1 (fresh_all (by decide)) HA.out ?_
  · rfl
  · rfl
  · rfl
  intro w2 hms hgr
  have R0 := Lib.hid (R1.out.ins hms hgr)
  clear hms hgr R1 HA
  go_wp2_with (fail)
  go_at_call 150
  refine (con_150 _).mono ?_
  rintro e w1 ⟨v1, rfl, ha, hb⟩
  dsimp only
  have R1 := Lib.hid (R0.out.call hb)
  have HA := Lib.hid ha
  clear ha hb R0
  go_step
  refine wpList_insert_u8 rfl _ _ _ rfl 77 (.std [48, 52]) ?_ ?_ ?_ R1.out.1 (fresh_all (by decide)) HA.out ?_
  · rfl
  · rfl
  · rfl
  intro w2 hms hgr
  have R0 := Lib.hid (R1.out.ins hms hgr)
  clear hms hgr R1 HA
  go_wp2_with (fail)
  go_at_call 151
  refine (con_151 _).mono ?_
  rintro e w1 ⟨v1, rfl, ha, hb⟩
  dsimp only
  have R1 := Lib.hid (R0.out.call hb)
  have HA := Lib.hid ha
  clear ha hb R0
  go_step
  refine wpList_insert_u8 rfl _ _ _ rfl 109 (.std [48, 49]) ?_ ?_ ?_ R1.out.1 (fresh_all (by decide)) HA.out ?_
  · rfl
  · rfl
  · rfl
  intro w2 hms hgr
  have R0 := Lib.hid (R1.out.ins hms hgr)
  clear hms hgr R1 HA
  go_wp2_with (fail)
  go_at_call 152
  refine (con_152 _).mono ?_
  rintro e w1 ⟨v1, rfl, ha, hb⟩
  dsimp only
  have R1 := Lib.hid (R0.out.call hb)
  have HA := Lib.hid ha
  clear ha hb R0
  go_step
  refine wpList_insert_u8 rfl _ _ _ rfl 110 (.verb [10]) ?_ ?_ ?_ R1.out.1 (fresh_all (by decide)) HA.out ?_
  · rfl
  · rfl
  · rfl
  intro w2 hms hgr
  have R0 := Lib.hid (R1.out.ins hms hgr)
  clear hms hgr R1 HA
  go_wp2_with (fail)
  go_at_call 153
  refine (con_153 _).mono ?_
  rintro e w1 ⟨v1, rfl, ha, hb⟩
  dsimp only
  have R1 := Lib.hid (R0.out.call hb)
  have HA := Lib.hid ha
  clear ha hb R0
  go_step
  refine wpList_insert_u8 rfl _ _ _ rfl 112 (.std [80, 77]) ?_ ?_ ?_ R1.out.1 (fresh_all (by decide)) HA.out ?_
  · rfl
  · rfl
  · rfl
  intro w2 hms hgr
  have R0 := Lib.hid (R1.out.ins hms hgr)
  clear hms hgr R1 HA
  go_wp2_with (fail)
  go_at_call 154
  refine (con_154 _).mono ?_
  rintro e w1 ⟨v1, rfl, ha, hb⟩
  dsimp only
  have R1 := Lib.hid (R0.out.call hb)
  have HA := Lib.hid ha
  clear ha hb R0
  go_step
  refine wpList_insert_u8 rfl _ _ _ rfl 82 (.std [49, 53, 58, 48, 52]) ?_ ?_ ?_ R1.out.1 (fresh_all (by decide)) HA.out ?_
  · rfl
  · rfl
  · rfl
  intro w2 hms hgr
  have R0 := Lib.hid (R1.out.ins hms hgr)
  clear hms hgr R1 HA
  go_wp2_with (fail)
  go_at_call 155
  refine (con_155 _).mono ?_
  rintro e w1 ⟨v1, rfl, ha, hb⟩
  dsimp only
  have R1 := Lib.hid (R0.out.call hb)
  have HA := Lib.hid ha
  clear ha hb R0
  go_step
  refine wpList_insert_u8 rfl _ _ _ rfl 114 (.other) ?_ ?_ ?_ R1.out.1 (fresh_all (by decide)) HA.out ?_
  · rfl
  · rfl
  · rfl
  intro w2 hms hgr
  have R0 := Lib.hid (R1.out.ins hms hgr)
  clear hms hgr R1 HA
  go_wp2_with (fail)
  go_at_call 156
  refine (con_156 _).mono ?_
  rintro e w1 ⟨v1, rfl, ha, hb⟩
  dsimp only
  have R1 := Lib.hid (R0.out.call hb)
  have HA := Lib.hid ha
  clear ha hb R0
  go_step
  refine wpList_insert_u8 rfl _ _ _ rfl 83 (.std [48, 53]) ?_ ?_ ?_ R1.out.1 (fresh_all (by decide)) HA.out ?_
  · rfl
  · rfl
  · rfl
  intro w2 hms hgr
  have R0 := Lib.hid (R1.out.ins hms hgr)
  clear hms hgr R1 HA
  go_wp2_with (fail)
  go_at_call 157
  refine (con_157 _).mono ?_
  rintro e w1 ⟨v1, rfl, ha, hb⟩
  dsimp only
  have R1 := Lib.hid (R0.out.call hb)
  have HA := Lib.hid ha
  clear ha hb R0
  go_step
  refine wpList_insert_u8 rfl _ _ _ rfl 84 (.std [49, 53, 58, 48, 52, 58, 48, 53]) ?_ ?_ ?_ R1.out.1 (fresh_all (by decide)) HA.out ?_
  · rfl
  · rfl
  · rfl
  intro w2 hms hgr
  have R0 := Lib.hid (R1.out.ins hms hgr)
  clear hms hgr R1 HA
  go_wp2_with (fail)
  go_at_call 158
  refine (con_158 _).mono ?_
  rintro e w1 ⟨v1, rfl, ha, hb⟩
  dsimp only
  have R1 := Lib.hid (R0.out.call hb)
  have HA := Lib.hid ha
  clear ha hb R0
  go_step
  refine wpList_insert_u8 rfl _ _ _ rfl 116 (.verb [9]) ?_ ?_ ?_ R1.out.1 (fresh_all (by decide)) HA.out ?_
  · rfl
  · rfl
  · rfl
  intro w2 hms hgr
  have R0 := Lib.hid (R1.out.ins hms hgr)
  clear hms hgr R1 HA
  go_wp2_with (fail)
  go_at_call 159
  refine (con_159 _).mono ?_
  rintro e w1 ⟨v1, rfl, ha, hb⟩
  dsimp only
  have R1 := Lib.hid (R0.out.call hb)
  have HA := Lib.hid ha
  clear ha hb R0
  go_step
  refine wpList_insert_u8 rfl _ _ _ rfl 85 (.wk true) ?_ ?_ ?_ R1.out.1 (fresh_all (by decide)) HA.out ?_
  · rfl
  · rfl
  · rfl
  intro w2 hms hgr
  have R0 := Lib.hid (R1.out.ins hms hgr)
  clear hms hgr R1 HA
  go_wp2_with (fail)
  go_at_call 160
  refine (con_160 _).mono ?_
  rintro e w1 ⟨v1, rfl, ha, hb⟩
  dsimp only
  have R1 := Lib.hid (R0.out.call hb)
  have HA := Lib.hid ha
  clear ha hb R0
  go_step
  refine wpList_insert_u8 rfl _ _ _ rfl 117 (.wd 1) ?_ ?_ ?_ R1.out.1 (fresh_all (by decide)) HA.out ?_
  · rfl
  · rfl
  · rfl
  intro w2 hms hgr
  have R0 := Lib.hid (R1.out.ins hms hgr)
  clear hms hgr R1 HA
  go_wp2_with (fail)
  go_at_call 161
  refine (con_161 _).mono ?_
  rintro e w1 ⟨v1, rfl, ha, hb⟩
  dsimp only
  have R1 := Lib.hid (R0.out.call hb)
  have HA := Lib.hid ha
  clear ha hb R0
  go_step
  refine wpList_insert_u8 rfl _ _ _ rfl 86 (.fn 183) ?_ ?_ ?_ R1.out.1 (fresh_all (by decide)) HA.out ?_
  · rfl
  · rfl
  · rfl
  intro w2 hms hgr
  have R0 := Lib.hid (R1.out.ins hms hgr)
  clear hms hgr R1 HA
  go_wp2_with (fail)
  go_at_call 162
  refine (con_162 _).mono ?_
  rintro e w1 ⟨v1, rfl, ha, hb⟩
  dsimp only
  have R1 := Lib.hid (R0.out.call hb)
  have HA := Lib.hid ha
  clear ha hb R0
  go_step
  refine wpList_insert_u8 rfl _ _ _ rfl 118 (.std [95, 50, 45, 74, 97, 110, 45, 50, 48, 48, 54]) ?_ ?_ ?_ R1.out.1 (fresh_all (by decide)) HA.out ?_
  · rfl
  · rfl
  · rfl
  intro w2 hms hgr
  have R0 := Lib.hid (R1.out.ins hms hgr)
  clear hms hgr R1 HA
  go_wp2_with (fail)
  go_at_call 163
  refine (con_163 _).mono ?_
  rintro e w1 ⟨v1, rfl, ha, hb⟩
  dsimp only
  have R1 := Lib.hid (R0.out.call hb)
  have HA := Lib.hid ha
  clear ha hb R0
  go_step
  refine wpList_insert_u8 rfl _ _ _ rfl 87 (.wk false) ?_ ?_ ?_ R1.out.1 (fresh_all (by decide)) HA.out ?_
  · rfl
  · rfl
  · rfl
  intro w2 hms hgr
  have R0 := Lib.hid (R1.out.ins hms hgr)
  clear hms hgr R1 HA
  go_wp2_with (fail)
  go_at_call 164
  refine (con_164 _).mono ?_
  rintro e w1 ⟨v1, rfl, ha, hb⟩
  dsimp only
  have R1 := Lib.hid (R0.out.call hb)
  have HA := Lib.hid ha
  clear ha hb R0
  go_step
  refine wpList_insert_u8 rfl _ _ _ rfl 119 (.wd 0) ?_ ?_ ?_ R1.out.1 (fresh_all (by decide)) HA.out ?_
  · rfl
  · rfl
  · rfl
  intro w2 hms hgr
  have R0 := Lib.hid (R1.out.ins hms hgr)
  clear hms hgr R1 HA
  go_wp2_with (fail)
  go_at_call 165
  refine (con_165 _).mono ?_
  rintro e w1 ⟨v1, rfl, ha, hb⟩
  dsimp only
  have R1 := Lib.hid (R0.out.call hb)
  have HA := Lib.hid ha
  clear ha hb R0
  go_step
  refine wpList_insert_u8 rfl _ _ _ rfl 88 (.std [49, 53, 58, 48, 52, 58, 48, 53]) ?_ ?_ ?_ R1.out.1 (fresh_all (by decide)) HA.out ?_
  · rfl
  · rfl
  · rfl
  intro w2 hms hgr
  have R0 := Lib.hid (R1.out.ins hms hgr)
  clear hms hgr R1 HA
  go_wp2_with (fail)
  go_at_call 166
  refine (con_166 _).mono ?_
  rintro e w1 ⟨v1, rfl, ha, hb⟩
  dsimp only
  have R1 := Lib.hid (R0.out.call hb)
  have HA := Lib.hid ha
  clear ha hb R0
  go_step
  refine wpList_insert_u8 rfl _ _ _ rfl 120 (.std [48, 49, 47, 48, 50, 47, 48, 54]) ?_ ?_ ?_ R1.out.1 (fresh_all (by decide)) HA.out ?_
  · rfl
  · rfl
  · rfl
  intro w2 hms hgr
  have R0 := Lib.hid (R1.out.ins hms hgr)
  clear hms hgr R1 HA
  go_wp2_with (fail)
  go_at_call 167
  refine (con_167 _).mono ?_
  rintro e w1 ⟨v1, rfl, ha, hb⟩
  dsimp only
  have R1 := Lib.hid (R0.out.call hb)
  have HA := Lib.hid ha
  clear ha hb R0
  go_step
  refine wpList_insert_u8 rfl _ _ _ rfl 89 (.std [50, 48, 48, 54]) ?_ ?_ ?_ R1.out.1 (fresh_all (by decide)) HA.out ?_
  · rfl
  · rfl
  · rfl
  intro w2 hms hgr
  have R0 := Lib.hid (R1.out.ins hms hgr)
  clear hms hgr R1 HA
  go_wp2_with (fail)
  go_at_call 168
  refine (con_168 _).mono ?_
  rintro e w1 ⟨v1, rfl, ha, hb⟩
  dsimp only
  have R1 := Lib.hid (R0.out.call hb)
  have HA := Lib.hid ha
  clear ha hb R0
  go_step
  refine wpList_insert_u8 rfl _ _ _ rfl 121 (.std [48, 54]) ?_ ?_ ?_ R1.out.1 (fresh_all (by decide)) HA.out ?_
  · rfl
  · rfl
  · rfl
  intro w2 hms hgr
  have R0 := Lib.hid (R1.out.ins hms hgr)
  clear hms hgr R1 HA
  go_wp2_with (fail)
  go_at_call 169
  refine (con_169 _).mono ?_
  rintro e w1 ⟨v1, rfl, ha, hb⟩
  dsimp only
  have R1 := Lib.hid (R0.out.call hb)
  have HA := Lib.hid ha
  clear ha hb R0
  go_step
  refine wpList_insert_u8 rfl _ _ _ rfl 90 (.std [77, 83, 84]) ?_ ?_ ?_ R1.out.1 (fresh_all (by decide)) HA.out ?_
  · rfl
  · rfl
  · rfl
  intro w2 hms hgr
  have R0 := Lib.hid (R1.out.ins hms hgr)
  clear hms hgr R1 HA
  go_wp2_with (fail)
  go_at_call 170
  refine (con_170 _).mono ?_
  rintro e w1 ⟨v1, rfl, ha, hb⟩
  dsimp only
  have R1 := Lib.hid (R0.out.call hb)
  have HA := Lib.hid ha
  clear ha hb R0
  go_step
  refine wpList_insert_u8 rfl _ _ _ rfl 122 (.std [45, 48, 55, 48, 48]) ?_ ?_ ?_ R1.out.1 (fresh_all (by decide)) HA.out ?_
  · rfl
  · rfl
  · rfl
  intro w2 hms hgr
  have R0 := Lib.hid (R1.out.ins hms hgr)
  clear hms hgr R1 HA
  go_wp2_with (fail)
  go_at_call 171
  refine (con_171 _).mono ?_
  rintro e w1 ⟨v1, rfl, ha, hb⟩
  dsimp only
  have R1 := Lib.hid (R0.out.call hb)
  have HA := Lib.hid ha
  clear ha hb R0
  go_step
  refine wpList_insert_u8 rfl _ _ _ rfl 37 (.verb [37]) ?_ ?_ ?_ R1.out.1 (fresh_all (by decide)) HA.out ?_
  · rfl
  · rfl
  · rfl
  intro w2 hms hgr
  have R0 := Lib.hid (R1.out.ins hms hgr)
  clear hms hgr R1 HA
  go_wp2_with (fail)
  go_ret
  exact ⟨_, rfl, R0.out⟩
end Go.Proofs.YtkcgngpoegglnaaGreatDoor
