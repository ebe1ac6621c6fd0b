/- Contracts of the calendar functions that only reckon with numbers. -/
import Derived.Test.YtkcgngpoegglnaaGreatDoorProg
import Derived.WalkKit
import Derived.WalkSpells
import Derived.WalkLawsBesides
import Derived.KernelRfl
import Derived.Lib.Hide
import Derived.Test.YtkcgngpoegglnaaGreatDoorM01
namespace Go.Proofs.YtkcgngpoegglnaaGreatDoor
open Go Go.RowKit
set_option linter.unusedVariables false

theorem norm_any (hi lo base : Int) (w : World) (h0 : 0 ≤ lo) (h1 : lo < base) :
    Calls Tryz.prog 46 #[.int .i64 hi, .int .i64 lo, .int .i64 base] w fun e w' => e = .returned (.tuple #[.int .i64 hi, .int .i64 lo]) ∧ w = w' := by
  go_enter Tryz.func46, Tryz.ntmps46
  go_wp2
  go_ret2
  exact ⟨rfl, rfl⟩

theorem days_any (a : Int) (w : World) (h0 : 0 ≤ a) (h1 : a < 18446744073709551616) :
    Calls Tryz.prog 84 #[.int .u64 a] w fun e w' => e = .returned (.int .u64 (a / 86400)) ∧ w = w' := by
  go_enter Tryz.func84, Tryz.ntmps84
  go_wp2
  go_ret
  exact ⟨rfl, rfl⟩

theorem weekday_any (a : Int) (w : World) (h0 : 0 ≤ a) (h1 : a < 1000000000000000000) :
    Calls Tryz.prog 85 #[.int .u64 a] w fun e w' => e = .returned (.int .i64 ((a + 3) % 7)) ∧ w = w' := by
  go_enter Tryz.func85, Tryz.ntmps85
  go_wp2
  go_ret
  exact ⟨rfl, rfl⟩

theorem mul32_any (b : Int) (w : World) (h2 : 0 ≤ b) (h3 : b < 4294967296) :
    Calls Tryz.prog 107 #[.int .u32 2939745, .int .u32 b] w fun e w' => e = .returned (.tuple #[.int .u32 (2939745 * b / 4294967296), .int .u32 (2939745 * b % 4294967296)]) ∧ w = w' := by
  go_enter Tryz.func107, Tryz.ntmps107
  go_wp2
  go_ret2
  exact ⟨rfl, rfl⟩

/-- the day of a century, four times, and 3 more. -/
def cdF (D : Int) : Int := (4 * D + 3) % 146097 / 4 * 4 + 3
def cenF (D : Int) : Int := (4 * D + 3) / 146097
def cyrF (D : Int) : Int := cdF D / 1461
def aydF (D : Int) : Int := cdF D % 1461 / 4

theorem cdF_bd (D : Int) : 0 ≤ cdF D ∧ cdF D < 146104 := by unfold cdF; omega

theorem mul_div (q : Int) (h0 : 0 ≤ q) (h1 : q < 36525) : 2939745 * (q * 4 + 3) / 4294967296 = (q * 4 + 3) / 1461 := by omega
theorem mul_mod (q : Int) (h0 : 0 ≤ q) (h1 : q < 36525) : 2939745 * (q * 4 + 3) % 4294967296 / 2939745 / 4 = (q * 4 + 3) % 1461 / 4 := by
  have h := mul_div q h0 h1
  have e : 2939745 * (q * 4 + 3) % 4294967296 = 2939745 * (q * 4 + 3) - 4294967296 * ((q * 4 + 3) / 1461) := by omega
  rw [e]
  have e2 : (2939745 * (q * 4 + 3) - 4294967296 * ((q * 4 + 3) / 1461)) / 2939745 = (q * 4 + 3) % 1461 := by
    clear e h
    obtain ⟨d, hd⟩ : ∃ d, (q * 4 + 3) / 1461 = d := ⟨_, rfl⟩
    have h5 : (q * 4 + 3) % 1461 = q * 4 + 3 - 1461 * d := by omega
    have h6 : 0 ≤ d ∧ d ≤ 100 := by omega
    rw [hd, h5]
    clear hd h5
    omega
  rw [e2]

theorem tup3 {a b c a' b' c' : Value} (h1 : a = a') (h2 : b = b') (h3 : c = c') : Ending.returned (.tuple #[a, b, c]) = .returned (.tuple #[a', b', c']) := by rw [h1, h2, h3]
theorem tup2 {a b a' b' : Value} (h1 : a = a') (h2 : b = b') : Ending.returned (.tuple #[a, b]) = .returned (.tuple #[a', b']) := by rw [h1, h2]
theorem int_eq {k : IntKind} {a b : Int} (h : a = b) : Value.int k a = .int k b := by rw [h]

theorem split_any (D : Int) (w : World) (h0 : 0 ≤ D) (h1 : D < 1125899906842624) :
    Calls Tryz.prog 88 #[.int .u64 D] w fun e w' => e = .returned (.tuple #[.int .u64 (cenF D), .int .i64 (cyrF D), .int .i64 (aydF D)]) ∧ w = w' := by
  have hb : bits .or .u32 ((4 * D + 3) % 146097) 3 = (4 * D + 3) % 146097 / 4 * 4 + 3 := u32_or3 _ (by omega) (by omega)
  have hc := cdF_bd D
  unfold cdF at hc
  go_enter Tryz.func88, Tryz.ntmps88
  go_wp2_with (first | (go_at_call 107; refine (mul32_any _ _ (by omega) (by omega)).mono ?_; rintro e w' ⟨rfl, rfl⟩))
  go_ret3
  refine ⟨tup3 (int_eq ?_) (int_eq ?_) (int_eq ?_), rfl⟩
  · rfl
  · exact mul_div _ (by omega) (by omega)
  · exact mul_mod _ (by omega) (by omega)

def amY (y : Int) : Int := (2141 * y + 197913) / 65536
def mdY (y : Int) : Int := 1 + (2141 * y + 197913) % 65536 / 2141
def jfY (y : Int) : Int := if 306 ≤ y then 1 else 0
theorem absplit_any (y : Int) (w : World) (h0 : 0 ≤ y) (h1 : y < 400) :
    Calls Tryz.prog 89 #[.int .i64 y] w fun e w' => e = .returned (.tuple #[.int .i64 (amY y), .int .i64 (mdY y)]) ∧ w = w' := by
  have hb : bits .and .u32 (2141 * y + 197913) 65535 = (2141 * y + 197913) % 65536 := u32_and16 _ (by omega) (by omega)
  go_enter Tryz.func89, Tryz.ntmps89
  go_wp2
  go_ret2
  exact ⟨rfl, rfl⟩

theorem janFeb_any (y : Int) (w : World) (h0 : 0 ≤ y) (h1 : y < 400) :
    Calls Tryz.prog 91 #[.int .i64 y] w fun e w' => e = .returned (.int .i64 (jfY y)) ∧ w = w' := by
  go_enter Tryz.func91, Tryz.ntmps91
  go_wp2
  all_goals
    go_ret
    refine ⟨?_, rfl⟩
    simp [jfY, *]

theorem month_any (m j : Int) (w : World) (h0 : 0 ≤ m) (h1 : m < 400) (h2 : 0 ≤ j) (h3 : j ≤ 1) :
    Calls Tryz.prog 90 #[.int .i64 m, .int .i64 j] w fun e w' => e = .returned (.int .i64 (m - j * 12)) ∧ w = w' := by
  go_enter Tryz.func90, Tryz.ntmps90
  go_wp2
  go_ret
  exact ⟨rfl, rfl⟩

theorem year_any (c y j : Int) (w : World) (h0 : 2922770224 ≤ c) (h1 : c < 3000000000) (h2 : 0 ≤ j) (h3 : j ≤ 1) (h4 : 0 ≤ y) (h5 : y < 200) :
    Calls Tryz.prog 116 #[.int .u64 c, .int .i64 y, .int .i64 j] w fun e w' => e = .returned (.int .i64 (c * 100 - 292277022400 + y + j)) ∧ w = w' := by
  go_enter Tryz.func116, Tryz.ntmps116
  go_wp2
  go_ret
  exact ⟨rfl, rfl⟩

/-- is the year (by centuries from March on) a leap one? -/
def leapF (c y : Int) : Int := if y % 4 = 0 ∧ (y ≠ 0 ∨ c % 4 = 0) then 1 else 0
theorem leap_any (c y : Int) (w : World) (h0 : 0 ≤ c) (h1 : c < 18446744073709551616) (h4 : 0 ≤ y) (h5 : y < 200) :
    Calls Tryz.prog 119 #[.int .u64 c, .int .i64 y] w fun e w' => e = .returned (.int .i64 (leapF c y)) ∧ w = w' := by
  have o11 : bits .or .i64 1 1 = 1 := by decide
  have o10 : bits .or .i64 1 0 = 1 := by decide
  have o01 : bits .or .i64 0 1 = 1 := by decide
  have o00 : bits .or .i64 0 0 = 0 := by decide
  have a11 : bits .and .i64 1 1 = 1 := by decide
  have a10 : bits .and .i64 1 0 = 0 := by decide
  have a01 : bits .and .i64 0 1 = 0 := by decide
  have a00 : bits .and .i64 0 0 = 0 := by decide
  go_enter Tryz.func119, Tryz.ntmps119
  go_wp2
  all_goals
    go_ret
    refine ⟨?_, rfl⟩
    simp_all [leapF]
theorem yday_any (a j l : Int) (w : World) (h0 : 0 ≤ a) (h1 : a < 400) (h2 : j = 0 ∨ j = 1) (h3 : l = 0 ∨ l = 1) :
    Calls Tryz.prog 118 #[.int .i64 a, .int .i64 j, .int .i64 l] w fun e w' => e = .returned (.int .i64 (a + 60 + (l * (1 - j)) - 365 * j)) ∧ w = w' := by
  rcases h2 with rfl | rfl <;> rcases h3 with rfl | rfl
  all_goals
    have n00 : bits .andNot .i64 0 0 = 0 := by decide
    have n01 : bits .andNot .i64 0 1 = 0 := by decide
    have n10 : bits .andNot .i64 1 0 = 1 := by decide
    have n11 : bits .andNot .i64 1 1 = 0 := by decide
    go_enter Tryz.func118, Tryz.ntmps118
    go_wp2
    go_ret
    exact ⟨congrArg _ (int_eq (by simp <;> omega)), rfl⟩

/-- the days from March 1 of the year 0 on stand between these. -/
def InDays (D : Int) : Prop := 106751990353932 ≤ D ∧ D < 106751995000000

theorem cen_bd {D : Int} (h : InDays D) : 2922770224 ≤ cenF D ∧ cenF D < 2922780000 := by unfold InDays at h; unfold cenF; omega
theorem cyr_bd (D : Int) : 0 ≤ cyrF D ∧ cyrF D < 101 := by have := cdF_bd D; unfold cyrF; omega
theorem ayd_bd (D : Int) : 0 ≤ aydF D ∧ aydF D < 366 := by have := cdF_bd D; unfold aydF; omega
theorem jf_bd (y : Int) : 0 ≤ jfY y ∧ jfY y ≤ 1 := by unfold jfY; split <;> omega
theorem am_bd (D : Int) : 0 ≤ amY (aydF D) ∧ amY (aydF D) < 20 := by have := ayd_bd D; unfold amY; omega

def yearF (D : Int) : Int := cenF D * 100 - 292277022400 + cyrF D + jfY (aydF D)
def monthF (D : Int) : Int := amY (aydF D) - jfY (aydF D) * 12
def dayF (D : Int) : Int := mdY (aydF D)
def ydayF (D : Int) : Int := aydF D + 60 + leapF (cenF D) (cyrF D) * (1 - jfY (aydF D)) - 365 * jfY (aydF D)

theorem date_any (D : Int) (w : World) (h : InDays D) :
    Calls Tryz.prog 109 #[.int .u64 D] w fun e w' => e = .returned (.tuple #[.int .i64 (yearF D), .int .i64 (monthF D), .int .i64 (dayF D)]) ∧ w = w' := by
  have c := cen_bd h
  have y := cyr_bd D
  have a := ayd_bd D
  have j := jf_bd (aydF D)
  have m := am_bd D
  unfold InDays at h
  go_enter Tryz.func109, Tryz.ntmps109
  go_wp2_with (first | (go_at_call 88; refine (split_any _ _ (by omega) (by omega)).mono ?_; rintro e w' ⟨rfl, rfl⟩) | (go_at_call 89; refine (absplit_any _ _ (by omega) (by omega)).mono ?_; rintro e w' ⟨rfl, rfl⟩) | (go_at_call 91; refine (janFeb_any _ _ (by omega) (by omega)).mono ?_; rintro e w' ⟨rfl, rfl⟩) | (go_at_call 116; refine (year_any (cenF D) (cyrF D) (jfY (aydF D)) _ (by omega) (by omega) (by omega) (by omega) (by omega) (by omega)).mono ?_; rintro e w' ⟨rfl, rfl⟩) | (go_at_call 90; refine (month_any (amY (aydF D)) (jfY (aydF D)) _ (by omega) (by omega) (by omega) (by omega)).mono ?_; rintro e w' ⟨rfl, rfl⟩))
  go_ret3
  exact ⟨rfl, rfl⟩

theorem yearYday_any (D : Int) (w : World) (h : InDays D) :
    Calls Tryz.prog 97 #[.int .u64 D] w fun e w' => e = .returned (.tuple #[.int .i64 (yearF D), .int .i64 (ydayF D)]) ∧ w = w' := by
  have c := cen_bd h
  have y := cyr_bd D
  have a := ayd_bd D
  have j := jf_bd (aydF D)
  have j2 : jfY (aydF D) = 0 ∨ jfY (aydF D) = 1 := by omega
  have l2 : leapF (cenF D) (cyrF D) = 0 ∨ leapF (cenF D) (cyrF D) = 1 := by unfold leapF; split <;> simp
  unfold InDays at h
  have J := Lib.hid j2
  have L := Lib.hid l2
  clear j2 l2
  go_enter Tryz.func97, Tryz.ntmps97
  go_wp2_with (first | (go_at_call 88; refine (split_any _ _ (by omega) (by omega)).mono ?_; rintro e w' ⟨rfl, rfl⟩) | (go_at_call 91; refine (janFeb_any _ _ (by omega) (by omega)).mono ?_; rintro e w' ⟨rfl, rfl⟩) | (go_at_call 116; refine (year_any (cenF D) (cyrF D) (jfY (aydF D)) _ (by omega) (by omega) (by omega) (by omega) (by omega) (by omega)).mono ?_; rintro e w' ⟨rfl, rfl⟩) | (go_at_call 119; refine (leap_any (cenF D) (cyrF D) _ (by omega) (by omega) (by omega) (by omega)).mono ?_; rintro e w' ⟨rfl, rfl⟩) | (go_at_call 118; refine (yday_any (aydF D) (jfY (aydF D)) (leapF (cenF D) (cyrF D)) _ (by omega) (by omega) J.out L.out).mono ?_; rintro e w' ⟨rfl, rfl⟩))
  go_ret2
  exact ⟨rfl, rfl⟩

theorem clock_any (a : Int) (w : World) (h0 : 0 ≤ a) (h1 : a < 18446744073709551616) :
    Calls Tryz.prog 111 #[.int .u64 a] w fun e w' => e = .returned (.tuple #[.int .i64 (a % 86400 / 3600), .int .i64 (a % 3600 / 60), .int .i64 (a % 60)]) ∧ w = w' := by
  go_enter Tryz.func111, Tryz.ntmps111
  go_wp2
  go_ret3
  exact ⟨tup3 (int_eq rfl) (int_eq (by omega)) (int_eq (by omega)), rfl⟩

/-- the month of a year that begins in March. -/
def amoF (m : Int) : Int := if m < 3 then m + 12 else m
def jfM (m : Int) : Int := if m < 3 then 1 else 0
def absF (y m d : Int) : Int := 146097 * ((y - jfM m + 292277022400) / 100) / 4 + 1461 * ((y - jfM m + 292277022400) % 100) / 4 + (979 * amoF m - 2919) / 32 + d - 1

theorem dateToAbsDays_any (y m d : Int) (w : World) (h0 : 1 ≤ y) (h1 : y ≤ 9999) (h2 : 1 ≤ m) (h3 : m ≤ 12) (h4 : 1 ≤ d) (h5 : d ≤ 31) :
    Calls Tryz.prog 47 #[.int .i64 y, .int .i64 m, .int .i64 d] w fun e w' => e = .returned (.int .u64 (absF y m d)) ∧ w = w' := by
  by_cases h : m < 3
  · go_enter Tryz.func47, Tryz.ntmps47
    go_wp2
    go_ret
    refine ⟨congrArg _ (int_eq ?_), rfl⟩
    simp only [absF, amoF, jfM, h, if_true]
    omega
  · go_enter Tryz.func47, Tryz.ntmps47
    go_wp2
    go_ret
    refine ⟨congrArg _ (int_eq ?_), rfl⟩
    have h' : ¬ m < 3 := by omega
    simp only [absF, amoF, jfM, if_neg h', Int.sub_zero]
    omega
end Go.Proofs.YtkcgngpoegglnaaGreatDoor
