/- The first package: its appenders as values; the contracts of the functions that make them. -/
import Derived.Test.YtkcgngpoegglnaaGreatDoorM03
import Derived.Test.YtkcgngpoegglnaaGreatDoorM04
namespace Go.Proofs.YtkcgngpoegglnaaGreatDoor
open Go Go.RowKit
set_option linter.unusedVariables false
set_option linter.unusedSimpArgs false

/-- an appender: a layout, a text, a function, a day of the week, a number of a week; one that is never asked. -/
inductive Ap where
  | std (s : List UInt8)
  | verb (s : List UInt8)
  | fn (k : Nat)
  | wd (n : Int)
  | wk (b : Bool)
  | other

/-- a value is this appender. -/
def ApIs (w : World) (v : Value) : Ap → Prop
  | .std s => ∃ p, v = .iface 245 (.pointer (some ⟨p, 0, none⟩)) ∧ w.heap[p]? = some (.cells #[.string (bs s)] 247 (0, 0))
  | .verb s => ∃ p, v = .iface 248 (.pointer (some ⟨p, 0, none⟩)) ∧ w.heap[p]? = some (.cells #[.string (bs s)] 249 (0, 0))
  | .fn k => v = .iface 236 (.func (.func k) #[] #[])
  | .wd n => v = .iface 243 (.int .i64 n)
  | .wk b => v = .iface 242 (.bool b)
  | .other => ∃ t x, v = .iface t x ∧ (t = 237 ∨ t = 241)

theorem ApIs.keep {w w' : World} {v : Value} {a : Ap} (h : ApIs w v a) (hk : ∀ (p : Nat) (s : ByteArray) (t : TypeId), w.heap[p]? = some (Obj.cells #[.string s] t (0, 0)) → w'.heap[p]? = w.heap[p]?) : ApIs w' v a := by
  cases a with
  | std s => obtain ⟨p, e, hp⟩ := h; exact ⟨p, e, (hk p _ _ hp).trans hp⟩
  | verb s => obtain ⟨p, e, hp⟩ := h; exact ⟨p, e, (hk p _ _ hp).trans hp⟩
  | fn k => exact h
  | wd n => exact h
  | wk b => exact h
  | other => exact h

theorem ApIs.below {w w' : World} {v : Value} {a : Ap} (h : ApIs w v a) (hb : Below w.heap.size w w') : ApIs w' v a :=
  ApIs.keep h fun p _ _ hp => hb.block p (Array.getElem?_eq_some_iff.1 hp).1

theorem new_block (w : World) (o : Obj) : (w.alloc o).heap[w.heap.size]? = some o := by
  show (w.heap.push o)[w.heap.size]? = _
  simp

/-- the end of a call that makes an appender. -/
def ApPost (w : World) (a : Ap) (e : Ending) (w' : World) : Prop := ∃ v, e = .returned v ∧ ApIs w' v a ∧ Below w.heap.size w w'

theorem stdlib_any (s : List UInt8) (w : World) : Calls Tryz.prog 177 #[.string (bs s)] w (ApPost w (.std s)) := by
  have hn := new_block w (.cells #[.string (bs s)] 247)
  have H := Lib.hid hn
  clear hn
  go_enter Tryz.func177, Tryz.ntmps177
  go_wp2
  go_ret
  exact ⟨_, rfl, ⟨_, rfl, H.out⟩, (Below.refl _ _).alloc (Nat.le_refl _) _⟩

theorem verbatim_any (s : List UInt8) (w : World) : Calls Tryz.prog 182 #[.string (bs s)] w (ApPost w (.verb s)) := by
  have hn := new_block w (.cells #[.string (bs s)] 249)
  have H := Lib.hid hn
  clear hn
  go_enter Tryz.func182, Tryz.ntmps182
  go_wp2
  go_ret
  exact ⟨_, rfl, ⟨_, rfl, H.out⟩, (Below.refl _ _).alloc (Nat.le_refl _) _⟩

theorem con_133 (w : World) : Calls Tryz.prog 133 #[] w (ApPost w (.std [77, 111, 110, 100, 97, 121])) := by
  have H : Calls Tryz.prog 177 #[.string ⟨#[77, 111, 110, 100, 97, 121]⟩] w (ApPost w (.std [77, 111, 110, 100, 97, 121])) := stdlib_any [77, 111, 110, 100, 97, 121] w
  go_enter Tryz.func133, Tryz.ntmps133
  go_wp2_with (first | (go_at_call 177; refine H.mono ?_; rintro e w' ⟨v, rfl, ha, hb⟩))
  go_ret
  exact ⟨v, rfl, ha, hb⟩

theorem con_134 (w : World) : Calls Tryz.prog 134 #[] w (ApPost w (.std [77, 111, 110])) := by
  have H : Calls Tryz.prog 177 #[.string ⟨#[77, 111, 110]⟩] w (ApPost w (.std [77, 111, 110])) := stdlib_any [77, 111, 110] w
  go_enter Tryz.func134, Tryz.ntmps134
  go_wp2_with (first | (go_at_call 177; refine H.mono ?_; rintro e w' ⟨v, rfl, ha, hb⟩))
  go_ret
  exact ⟨v, rfl, ha, hb⟩

theorem con_135 (w : World) : Calls Tryz.prog 135 #[] w (ApPost w (.std [74, 97, 110, 117, 97, 114, 121])) := by
  have H : Calls Tryz.prog 177 #[.string ⟨#[74, 97, 110, 117, 97, 114, 121]⟩] w (ApPost w (.std [74, 97, 110, 117, 97, 114, 121])) := stdlib_any [74, 97, 110, 117, 97, 114, 121] w
  go_enter Tryz.func135, Tryz.ntmps135
  go_wp2_with (first | (go_at_call 177; refine H.mono ?_; rintro e w' ⟨v, rfl, ha, hb⟩))
  go_ret
  exact ⟨v, rfl, ha, hb⟩

theorem con_136 (w : World) : Calls Tryz.prog 136 #[] w (ApPost w (.std [74, 97, 110])) := by
  have H : Calls Tryz.prog 177 #[.string ⟨#[74, 97, 110]⟩] w (ApPost w (.std [74, 97, 110])) := stdlib_any [74, 97, 110] w
  go_enter Tryz.func136, Tryz.ntmps136
  go_wp2_with (first | (go_at_call 177; refine H.mono ?_; rintro e w' ⟨v, rfl, ha, hb⟩))
  go_ret
  exact ⟨v, rfl, ha, hb⟩

theorem con_138 (w : World) : Calls Tryz.prog 138 #[] w (ApPost w (.std [77, 111, 110, 32, 74, 97, 110, 32, 95, 50, 32, 49, 53, 58, 48, 52, 58, 48, 53, 32, 50, 48, 48, 54])) := by
  have H : Calls Tryz.prog 177 #[.string ⟨#[77, 111, 110, 32, 74, 97, 110, 32, 95, 50, 32, 49, 53, 58, 48, 52, 58, 48, 53, 32, 50, 48, 48, 54]⟩] w (ApPost w (.std [77, 111, 110, 32, 74, 97, 110, 32, 95, 50, 32, 49, 53, 58, 48, 52, 58, 48, 53, 32, 50, 48, 48, 54])) := stdlib_any [77, 111, 110, 32, 74, 97, 110, 32, 95, 50, 32, 49, 53, 58, 48, 52, 58, 48, 53, 32, 50, 48, 48, 54] w
  go_enter Tryz.func138, Tryz.ntmps138
  go_wp2_with (first | (go_at_call 177; refine H.mono ?_; rintro e w' ⟨v, rfl, ha, hb⟩))
  go_ret
  exact ⟨v, rfl, ha, hb⟩

theorem con_139 (w : World) : Calls Tryz.prog 139 #[] w (ApPost w (.std [48, 49, 47, 48, 50, 47, 48, 54])) := by
  have H : Calls Tryz.prog 177 #[.string ⟨#[48, 49, 47, 48, 50, 47, 48, 54]⟩] w (ApPost w (.std [48, 49, 47, 48, 50, 47, 48, 54])) := stdlib_any [48, 49, 47, 48, 50, 47, 48, 54] w
  go_enter Tryz.func139, Tryz.ntmps139
  go_wp2_with (first | (go_at_call 177; refine H.mono ?_; rintro e w' ⟨v, rfl, ha, hb⟩))
  go_ret
  exact ⟨v, rfl, ha, hb⟩

theorem con_140 (w : World) : Calls Tryz.prog 140 #[] w (ApPost w (.std [48, 50])) := by
  have H : Calls Tryz.prog 177 #[.string ⟨#[48, 50]⟩] w (ApPost w (.std [48, 50])) := stdlib_any [48, 50] w
  go_enter Tryz.func140, Tryz.ntmps140
  go_wp2_with (first | (go_at_call 177; refine H.mono ?_; rintro e w' ⟨v, rfl, ha, hb⟩))
  go_ret
  exact ⟨v, rfl, ha, hb⟩

theorem con_141 (w : World) : Calls Tryz.prog 141 #[] w (ApPost w (.std [95, 50])) := by
  have H : Calls Tryz.prog 177 #[.string ⟨#[95, 50]⟩] w (ApPost w (.std [95, 50])) := stdlib_any [95, 50] w
  go_enter Tryz.func141, Tryz.ntmps141
  go_wp2_with (first | (go_at_call 177; refine H.mono ?_; rintro e w' ⟨v, rfl, ha, hb⟩))
  go_ret
  exact ⟨v, rfl, ha, hb⟩

theorem con_144 (w : World) : Calls Tryz.prog 144 #[] w (ApPost w (.std [50, 48, 48, 54, 45, 48, 49, 45, 48, 50])) := by
  have H : Calls Tryz.prog 177 #[.string ⟨#[50, 48, 48, 54, 45, 48, 49, 45, 48, 50]⟩] w (ApPost w (.std [50, 48, 48, 54, 45, 48, 49, 45, 48, 50])) := stdlib_any [50, 48, 48, 54, 45, 48, 49, 45, 48, 50] w
  go_enter Tryz.func144, Tryz.ntmps144
  go_wp2_with (first | (go_at_call 177; refine H.mono ?_; rintro e w' ⟨v, rfl, ha, hb⟩))
  go_ret
  exact ⟨v, rfl, ha, hb⟩

theorem con_145 (w : World) : Calls Tryz.prog 145 #[] w (ApPost w (.std [49, 53])) := by
  have H : Calls Tryz.prog 177 #[.string ⟨#[49, 53]⟩] w (ApPost w (.std [49, 53])) := stdlib_any [49, 53] w
  go_enter Tryz.func145, Tryz.ntmps145
  go_wp2_with (first | (go_at_call 177; refine H.mono ?_; rintro e w' ⟨v, rfl, ha, hb⟩))
  go_ret
  exact ⟨v, rfl, ha, hb⟩

theorem con_146 (w : World) : Calls Tryz.prog 146 #[] w (ApPost w (.std [48, 51])) := by
  have H : Calls Tryz.prog 177 #[.string ⟨#[48, 51]⟩] w (ApPost w (.std [48, 51])) := stdlib_any [48, 51] w
  go_enter Tryz.func146, Tryz.ntmps146
  go_wp2_with (first | (go_at_call 177; refine H.mono ?_; rintro e w' ⟨v, rfl, ha, hb⟩))
  go_ret
  exact ⟨v, rfl, ha, hb⟩

theorem con_150 (w : World) : Calls Tryz.prog 150 #[] w (ApPost w (.std [48, 52])) := by
  have H : Calls Tryz.prog 177 #[.string ⟨#[48, 52]⟩] w (ApPost w (.std [48, 52])) := stdlib_any [48, 52] w
  go_enter Tryz.func150, Tryz.ntmps150
  go_wp2_with (first | (go_at_call 177; refine H.mono ?_; rintro e w' ⟨v, rfl, ha, hb⟩))
  go_ret
  exact ⟨v, rfl, ha, hb⟩

theorem con_151 (w : World) : Calls Tryz.prog 151 #[] w (ApPost w (.std [48, 49])) := by
  have H : Calls Tryz.prog 177 #[.string ⟨#[48, 49]⟩] w (ApPost w (.std [48, 49])) := stdlib_any [48, 49] w
  go_enter Tryz.func151, Tryz.ntmps151
  go_wp2_with (first | (go_at_call 177; refine H.mono ?_; rintro e w' ⟨v, rfl, ha, hb⟩))
  go_ret
  exact ⟨v, rfl, ha, hb⟩

theorem con_153 (w : World) : Calls Tryz.prog 153 #[] w (ApPost w (.std [80, 77])) := by
  have H : Calls Tryz.prog 177 #[.string ⟨#[80, 77]⟩] w (ApPost w (.std [80, 77])) := stdlib_any [80, 77] w
  go_enter Tryz.func153, Tryz.ntmps153
  go_wp2_with (first | (go_at_call 177; refine H.mono ?_; rintro e w' ⟨v, rfl, ha, hb⟩))
  go_ret
  exact ⟨v, rfl, ha, hb⟩

theorem con_154 (w : World) : Calls Tryz.prog 154 #[] w (ApPost w (.std [49, 53, 58, 48, 52])) := by
  have H : Calls Tryz.prog 177 #[.string ⟨#[49, 53, 58, 48, 52]⟩] w (ApPost w (.std [49, 53, 58, 48, 52])) := stdlib_any [49, 53, 58, 48, 52] w
  go_enter Tryz.func154, Tryz.ntmps154
  go_wp2_with (first | (go_at_call 177; refine H.mono ?_; rintro e w' ⟨v, rfl, ha, hb⟩))
  go_ret
  exact ⟨v, rfl, ha, hb⟩

theorem con_156 (w : World) : Calls Tryz.prog 156 #[] w (ApPost w (.std [48, 53])) := by
  have H : Calls Tryz.prog 177 #[.string ⟨#[48, 53]⟩] w (ApPost w (.std [48, 53])) := stdlib_any [48, 53] w
  go_enter Tryz.func156, Tryz.ntmps156
  go_wp2_with (first | (go_at_call 177; refine H.mono ?_; rintro e w' ⟨v, rfl, ha, hb⟩))
  go_ret
  exact ⟨v, rfl, ha, hb⟩

theorem con_157 (w : World) : Calls Tryz.prog 157 #[] w (ApPost w (.std [49, 53, 58, 48, 52, 58, 48, 53])) := by
  have H : Calls Tryz.prog 177 #[.string ⟨#[49, 53, 58, 48, 52, 58, 48, 53]⟩] w (ApPost w (.std [49, 53, 58, 48, 52, 58, 48, 53])) := stdlib_any [49, 53, 58, 48, 52, 58, 48, 53] w
  go_enter Tryz.func157, Tryz.ntmps157
  go_wp2_with (first | (go_at_call 177; refine H.mono ?_; rintro e w' ⟨v, rfl, ha, hb⟩))
  go_ret
  exact ⟨v, rfl, ha, hb⟩

theorem con_162 (w : World) : Calls Tryz.prog 162 #[] w (ApPost w (.std [95, 50, 45, 74, 97, 110, 45, 50, 48, 48, 54])) := by
  have H : Calls Tryz.prog 177 #[.string ⟨#[95, 50, 45, 74, 97, 110, 45, 50, 48, 48, 54]⟩] w (ApPost w (.std [95, 50, 45, 74, 97, 110, 45, 50, 48, 48, 54])) := stdlib_any [95, 50, 45, 74, 97, 110, 45, 50, 48, 48, 54] w
  go_enter Tryz.func162, Tryz.ntmps162
  go_wp2_with (first | (go_at_call 177; refine H.mono ?_; rintro e w' ⟨v, rfl, ha, hb⟩))
  go_ret
  exact ⟨v, rfl, ha, hb⟩

theorem con_165 (w : World) : Calls Tryz.prog 165 #[] w (ApPost w (.std [49, 53, 58, 48, 52, 58, 48, 53])) := by
  have H : Calls Tryz.prog 177 #[.string ⟨#[49, 53, 58, 48, 52, 58, 48, 53]⟩] w (ApPost w (.std [49, 53, 58, 48, 52, 58, 48, 53])) := stdlib_any [49, 53, 58, 48, 52, 58, 48, 53] w
  go_enter Tryz.func165, Tryz.ntmps165
  go_wp2_with (first | (go_at_call 177; refine H.mono ?_; rintro e w' ⟨v, rfl, ha, hb⟩))
  go_ret
  exact ⟨v, rfl, ha, hb⟩

theorem con_166 (w : World) : Calls Tryz.prog 166 #[] w (ApPost w (.std [48, 49, 47, 48, 50, 47, 48, 54])) := by
  have H : Calls Tryz.prog 177 #[.string ⟨#[48, 49, 47, 48, 50, 47, 48, 54]⟩] w (ApPost w (.std [48, 49, 47, 48, 50, 47, 48, 54])) := stdlib_any [48, 49, 47, 48, 50, 47, 48, 54] w
  go_enter Tryz.func166, Tryz.ntmps166
  go_wp2_with (first | (go_at_call 177; refine H.mono ?_; rintro e w' ⟨v, rfl, ha, hb⟩))
  go_ret
  exact ⟨v, rfl, ha, hb⟩

theorem con_167 (w : World) : Calls Tryz.prog 167 #[] w (ApPost w (.std [50, 48, 48, 54])) := by
  have H : Calls Tryz.prog 177 #[.string ⟨#[50, 48, 48, 54]⟩] w (ApPost w (.std [50, 48, 48, 54])) := stdlib_any [50, 48, 48, 54] w
  go_enter Tryz.func167, Tryz.ntmps167
  go_wp2_with (first | (go_at_call 177; refine H.mono ?_; rintro e w' ⟨v, rfl, ha, hb⟩))
  go_ret
  exact ⟨v, rfl, ha, hb⟩

theorem con_168 (w : World) : Calls Tryz.prog 168 #[] w (ApPost w (.std [48, 54])) := by
  have H : Calls Tryz.prog 177 #[.string ⟨#[48, 54]⟩] w (ApPost w (.std [48, 54])) := stdlib_any [48, 54] w
  go_enter Tryz.func168, Tryz.ntmps168
  go_wp2_with (first | (go_at_call 177; refine H.mono ?_; rintro e w' ⟨v, rfl, ha, hb⟩))
  go_ret
  exact ⟨v, rfl, ha, hb⟩

theorem con_169 (w : World) : Calls Tryz.prog 169 #[] w (ApPost w (.std [77, 83, 84])) := by
  have H : Calls Tryz.prog 177 #[.string ⟨#[77, 83, 84]⟩] w (ApPost w (.std [77, 83, 84])) := stdlib_any [77, 83, 84] w
  go_enter Tryz.func169, Tryz.ntmps169
  go_wp2_with (first | (go_at_call 177; refine H.mono ?_; rintro e w' ⟨v, rfl, ha, hb⟩))
  go_ret
  exact ⟨v, rfl, ha, hb⟩

theorem con_170 (w : World) : Calls Tryz.prog 170 #[] w (ApPost w (.std [45, 48, 55, 48, 48])) := by
  have H : Calls Tryz.prog 177 #[.string ⟨#[45, 48, 55, 48, 48]⟩] w (ApPost w (.std [45, 48, 55, 48, 48])) := stdlib_any [45, 48, 55, 48, 48] w
  go_enter Tryz.func170, Tryz.ntmps170
  go_wp2_with (first | (go_at_call 177; refine H.mono ?_; rintro e w' ⟨v, rfl, ha, hb⟩))
  go_ret
  exact ⟨v, rfl, ha, hb⟩

theorem con_152 (w : World) : Calls Tryz.prog 152 #[] w (ApPost w (.verb [10])) := by
  have H : Calls Tryz.prog 182 #[.string ⟨#[10]⟩] w (ApPost w (.verb [10])) := verbatim_any [10] w
  go_enter Tryz.func152, Tryz.ntmps152
  go_wp2_with (first | (go_at_call 182; refine H.mono ?_; rintro e w' ⟨v, rfl, ha, hb⟩))
  go_ret
  exact ⟨v, rfl, ha, hb⟩

theorem con_158 (w : World) : Calls Tryz.prog 158 #[] w (ApPost w (.verb [9])) := by
  have H : Calls Tryz.prog 182 #[.string ⟨#[9]⟩] w (ApPost w (.verb [9])) := verbatim_any [9] w
  go_enter Tryz.func158, Tryz.ntmps158
  go_wp2_with (first | (go_at_call 182; refine H.mono ?_; rintro e w' ⟨v, rfl, ha, hb⟩))
  go_ret
  exact ⟨v, rfl, ha, hb⟩

theorem con_171 (w : World) : Calls Tryz.prog 171 #[] w (ApPost w (.verb [37])) := by
  have H : Calls Tryz.prog 182 #[.string ⟨#[37]⟩] w (ApPost w (.verb [37])) := verbatim_any [37] w
  go_enter Tryz.func171, Tryz.ntmps171
  go_wp2_with (first | (go_at_call 182; refine H.mono ?_; rintro e w' ⟨v, rfl, ha, hb⟩))
  go_ret
  exact ⟨v, rfl, ha, hb⟩

theorem con_137 (w : World) : Calls Tryz.prog 137 #[] w (ApPost w (.fn 178)) := by
  go_enter Tryz.func137, Tryz.ntmps137
  go_wp2
  go_ret
  exact ⟨_, rfl, rfl, Below.refl _ _⟩

theorem con_142 (w : World) : Calls Tryz.prog 142 #[] w (ApPost w (.fn 179)) := by
  go_enter Tryz.func142, Tryz.ntmps142
  go_wp2
  go_ret
  exact ⟨_, rfl, rfl, Below.refl _ _⟩

theorem con_143 (w : World) : Calls Tryz.prog 143 #[] w (ApPost w (.fn 180)) := by
  go_enter Tryz.func143, Tryz.ntmps143
  go_wp2
  go_ret
  exact ⟨_, rfl, rfl, Below.refl _ _⟩

theorem con_147 (w : World) : Calls Tryz.prog 147 #[] w (ApPost w (.fn 181)) := by
  go_enter Tryz.func147, Tryz.ntmps147
  go_wp2
  go_ret
  exact ⟨_, rfl, rfl, Below.refl _ _⟩

theorem con_161 (w : World) : Calls Tryz.prog 161 #[] w (ApPost w (.fn 183)) := by
  go_enter Tryz.func161, Tryz.ntmps161
  go_wp2
  go_ret
  exact ⟨_, rfl, rfl, Below.refl _ _⟩

theorem con_160 (w : World) : Calls Tryz.prog 160 #[] w (ApPost w (.wd 1)) := by
  go_enter Tryz.func160, Tryz.ntmps160
  go_wp2
  go_ret
  exact ⟨_, rfl, rfl, Below.refl _ _⟩

theorem con_164 (w : World) : Calls Tryz.prog 164 #[] w (ApPost w (.wd 0)) := by
  go_enter Tryz.func164, Tryz.ntmps164
  go_wp2
  go_ret
  exact ⟨_, rfl, rfl, Below.refl _ _⟩

theorem con_159 (w : World) : Calls Tryz.prog 159 #[] w (ApPost w (.wk true)) := by
  go_enter Tryz.func159, Tryz.ntmps159
  go_wp2
  go_ret
  exact ⟨_, rfl, rfl, Below.refl _ _⟩

theorem con_163 (w : World) : Calls Tryz.prog 163 #[] w (ApPost w (.wk false)) := by
  go_enter Tryz.func163, Tryz.ntmps163
  go_wp2
  go_ret
  exact ⟨_, rfl, rfl, Below.refl _ _⟩

theorem con_148 (w : World) : Calls Tryz.prog 148 #[] w (ApPost w .other) := by
  go_enter Tryz.func148, Tryz.ntmps148
  go_wp2
  go_ret
  exact ⟨_, rfl, ⟨_, _, rfl, by simp⟩, by first | exact Below.refl _ _ | exact (Below.refl _ _).alloc (Nat.le_refl _) _⟩

theorem con_149 (w : World) : Calls Tryz.prog 149 #[] w (ApPost w .other) := by
  go_enter Tryz.func149, Tryz.ntmps149
  go_wp2
  go_ret
  exact ⟨_, rfl, ⟨_, _, rfl, by simp⟩, by first | exact Below.refl _ _ | exact (Below.refl _ _).alloc (Nat.le_refl _) _⟩

theorem con_155 (w : World) : Calls Tryz.prog 155 #[] w (ApPost w .other) := by
  go_enter Tryz.func155, Tryz.ntmps155
  go_wp2
  go_ret
  exact ⟨_, rfl, ⟨_, _, rfl, by simp⟩, by first | exact Below.refl _ _ | exact (Below.refl _ _).alloc (Nat.le_refl _) _⟩
end Go.Proofs.YtkcgngpoegglnaaGreatDoor
