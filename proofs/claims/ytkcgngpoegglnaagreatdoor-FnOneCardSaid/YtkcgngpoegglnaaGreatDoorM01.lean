/- Small laws on bits and on wrapping sums, with no program in sight. · A body cut into its pieces: a way to walk a great function a piece at a time. -/
import Derived.WalkKit
import Derived.Laws.BitsAllLaws
/- Small laws on bits and on wrapping sums, with no program in sight. -/
section
namespace Go.Proofs.YtkcgngpoegglnaaGreatDoor
open Go Go.RowKit

theorem nat_or3 (x : Nat) : x ||| 3 = x / 4 * 4 + 3 := by
  have h : (x / 4) <<< 2 + 3 = (x / 4) <<< 2 ||| 3 := Nat.shiftLeft_add_eq_or_of_lt (by decide : 3 < 2 ^ 2) _
  rw [show x / 4 * 4 = (x / 4) <<< 2 by rw [Nat.shiftLeft_eq], h]
  apply Nat.eq_of_testBit_eq
  intro i
  simp only [Nat.testBit_or, Nat.testBit_shiftLeft]
  by_cases hi : i < 2
  · have : i = 0 ∨ i = 1 := by omega
    rcases this with rfl | rfl <;> simp [Nat.testBit]
  · have e : (x / 4).testBit (i - 2) = x.testBit i := by
      rw [show (4 : Nat) = 2 ^ 2 from rfl, Nat.testBit_div_two_pow]
      congr 1; omega
    have h3 : (3 : Nat).testBit i = false := Nat.testBit_lt_two_pow (Nat.lt_of_lt_of_le (by decide : 3 < 2 ^ 2) (Nat.pow_le_pow_right (by decide) (by omega)))
    have h4 : decide (i ≥ 2) = true := by simp; omega
    rw [e, h3, h4]
    simp

theorem u32_or3 (a : Int) (h1 : 0 ≤ a) (h2 : a < 4294967296) : bits .or .u32 a 3 = a / 4 * 4 + 3 := by
  rw [u32_or a 3 h1 h2 (by decide) (by decide)]
  rw [show (3 : Int).toNat = 3 from rfl, nat_or3]
  omega

theorem u32_and16 (a : Int) (h1 : 0 ≤ a) (h2 : a < 4294967296) : bits .and .u32 a 65535 = a % 65536 := by
  rw [u32_and a 65535 h1 h2 (by decide) (by decide), show (65535 : Int).toNat = 2 ^ 16 - 1 from rfl, Nat.and_two_pow_sub_one_eq_mod]
  omega

theorem u64_and30 (a : Int) (h1 : 0 ≤ a) (h2 : a < 18446744073709551616) : bits .and .u64 a 1073741823 = a % 1073741824 := by
  rw [u64_and a 1073741823 h1 h2 (by decide) (by decide), show (1073741823 : Int).toNat = 2 ^ 30 - 1 from rfl, Nat.and_two_pow_sub_one_eq_mod]
  omega

theorem u64_and63 (a : Int) (h1 : 0 ≤ a) (h2 : a < 9223372036854775808) : bits .and .u64 a 9223372036854775808 = 0 := by
  rw [u64_and a 9223372036854775808 h1 (by omega) (by decide) (by decide), show (9223372036854775808 : Int).toNat = 2 ^ 63 from rfl]
  have : a.toNat &&& 2 ^ 63 = 0 := by
    apply Nat.eq_of_testBit_eq
    intro i
    simp only [Nat.testBit_and, Nat.zero_testBit, Nat.testBit_two_pow]
    by_cases hi : 63 = i
    · subst hi
      have : a.toNat.testBit 63 = false := Nat.testBit_lt_two_pow (by omega)
      simp [this]
    · simp [hi]
  rw [this]; rfl
end Go.Proofs.YtkcgngpoegglnaaGreatDoor
end
/- A body cut into its pieces: a way to walk a great function a piece at a time. -/
section
namespace Go.Proofs.YtkcgngpoegglnaaGreatDoor
open Go

/-- the first loop of a body. -/
def firstLoop : Code → Option Code
  | .loop c => some c
  | .seq a b => match firstLoop a with
    | some c => some c
    | none => firstLoop b
  | .block _ c => firstLoop c
  | .scope c => firstLoop c
  | .cond _ a b => match firstLoop a with
    | some c => some c
    | none => firstLoop b
  | _ => none

/-- what stands one behind the other. -/
def spine : Code → List Code
  | .seq a b => spine a ++ spine b
  | c => [c]

def inBlockOf : Code → Code
  | .block _ c => c
  | c => c

def thenOf : Code → Code
  | .cond _ a _ => a
  | c => c
def elseOf : Code → Code
  | .cond _ _ b => b
  | c => c

/-- pieces, walked one behind the other. -/
def wpL (P : Program) : List Code → (Exit → Act → World → Prop) → Act → World → Prop
  | [], Q, a, w => Q .normal a w
  | c :: cs, Q, a, w => c.wp P (Exit.then (wpL P cs Q) Q) a w

theorem wpL_nil {P : Program} {Q : Exit → Act → World → Prop} {a : Act} {w : World} (h : Q .normal a w) : wpL P [] Q a w := h
theorem wpL_cons {P : Program} {c : Code} {cs : List Code} {Q : Exit → Act → World → Prop} {a : Act} {w : World} (h : c.wp P (Exit.then (wpL P cs Q) Q) a w) : wpL P (c :: cs) Q a w := h

theorem wpL_append {P : Program} (xs ys : List Code) (Q : Exit → Act → World → Prop) : ∀ (a : Act) (w : World), wpL P (xs ++ ys) Q a w → wpL P xs (Exit.then (wpL P ys Q) Q) a w := by
  induction xs with
  | nil => intro a w h; exact h
  | cons c cs ih =>
    intro a w h
    refine wp_mono h fun e a' w' he => ?_
    cases e with
    | normal => exact ih _ _ he
    | exit i => exact he
    | goto l => exact he
    | ret => exact he
    | panic ch => exact he
    | outgrown => exact he

theorem wpL_mono {P : Program} (xs : List Code) {Q Q' : Exit → Act → World → Prop} (hq : ∀ e a w, Q e a w → Q' e a w) : ∀ (a : Act) (w : World), wpL P xs Q a w → wpL P xs Q' a w := by
  induction xs with
  | nil => intro a w h; exact hq _ _ _ h
  | cons c cs ih =>
    intro a w h
    refine wp_mono h fun e a' w' he => ?_
    cases e with
    | normal => exact ih _ _ he
    | exit i => exact hq _ _ _ he
    | goto l => exact hq _ _ _ he
    | ret => exact hq _ _ _ he
    | panic ch => exact hq _ _ _ he
    | outgrown => exact hq _ _ _ he

theorem wp_spine {P : Program} (c : Code) : ∀ (Q : Exit → Act → World → Prop) (a : Act) (w : World), wpL P (spine c) Q a w → c.wp P Q a w := by
  induction c with
  | seq x y ihx ihy =>
    intro Q a w h
    refine wp_seq ?_
    refine ihx _ _ _ ?_
    refine wpL_mono _ (fun e a' w' he => ?_) _ _ (wpL_append _ _ _ _ _ h)
    cases e with
    | normal => exact ihy _ _ _ he
    | exit i => exact he
    | goto l => exact he
    | ret => exact he
    | panic ch => exact he
    | outgrown => exact he
  | _ =>
    intro Q a w h
    refine wp_mono h fun e a' w' he => ?_
    cases e <;> exact he
end Go.Proofs.YtkcgngpoegglnaaGreatDoor
end
