/- The plain law of the calendar: a day's year, month, day, day of the year, day of the week and ISO week. · Contracts of the functions that make a row of bytes and append to it. · The second package: a row of bytes held in a captured variable; the closure that appends a letter. -/
import Derived.Test.YtkcgngpoegglnaaGreatDoorM03
import Derived.Test.YtkcgngpoegglnaaGreatDoorM08
import Derived.OneCell
/- The plain law of the calendar: a day's year, month, day, day of the year, day of the week and ISO week. -/
section
namespace Go.Proofs.YtkcgngpoegglnaaGreatDoor
open Go

/-- 1 in a leap year. -/
def lpY (y : Int) : Int := if y % 4 = 0 ∧ (y % 100 ≠ 0 ∨ y % 400 = 0) then 1 else 0
theorem lpY_bd (y : Int) : 0 ≤ lpY y ∧ lpY y ≤ 1 := by unfold lpY; split <;> omega
/-- how many days a month has. -/
def lenM (y m : Int) : Int := if m = 2 then 28 + lpY y else if m = 4 ∨ m = 6 ∨ m = 9 ∨ m = 11 then 30 else 31
/-- the days ahead of a month. -/
def cumM (y m : Int) : Int := (if m = 1 then 0 else if m = 2 then 31 else if m = 3 then 59 else if m = 4 then 90 else if m = 5 then 120 else if m = 6 then 151 else if m = 7 then 181 else if m = 8 then 212 else if m = 9 then 243 else if m = 10 then 273 else if m = 11 then 304 else 334) + (if 3 ≤ m then lpY y else 0)
/-- the days ahead of a year. -/
def dbY (y : Int) : Int := 365 * (y - 1) + (y - 1) / 4 - (y - 1) / 100 + (y - 1) / 400

theorem dbY_next (y : Int) : 365 * y + y / 4 - y / 100 + y / 400 = dbY y + 365 + lpY y := by
  unfold dbY lpY
  by_cases h4 : y % 4 = 0
  · have a4 : (y - 1) / 4 = y / 4 - 1 := by omega
    by_cases h100 : y % 100 = 0
    · have a100 : (y - 1) / 100 = y / 100 - 1 := by omega
      by_cases h400 : y % 400 = 0
      · have a400 : (y - 1) / 400 = y / 400 - 1 := by omega
        rw [a4, a100, a400, if_pos ⟨h4, .inr h400⟩]; omega
      · have a400 : (y - 1) / 400 = y / 400 := by omega
        rw [a4, a100, a400, if_neg (fun h => h.2.elim (fun h => h h100) h400)]; omega
    · have a100 : (y - 1) / 100 = y / 100 := by omega
      have a400 : (y - 1) / 400 = y / 400 := by omega
      rw [a4, a100, a400, if_pos ⟨h4, .inl h100⟩]; omega
  · have a4 : (y - 1) / 4 = y / 4 := by omega
    have a100 : (y - 1) / 100 = y / 100 := by omega
    have a400 : (y - 1) / 400 = y / 400 := by omega
    rw [a4, a100, a400, if_neg (fun h => h4 h.1)]; omega

theorem split1461 (r x : Int) (h0 : 0 ≤ x) (h1 : x < 1461) : (1461 * r + x) / 1461 = r ∧ (1461 * r + x) % 1461 = x := by omega
theorem split146097 (c x : Int) (h0 : 0 ≤ x) (h1 : x < 146097) : (146097 * c + x) / 146097 = c ∧ (146097 * c + x) % 146097 = x := by omega
/-- the days ahead of a year that begins in March, by centuries. -/
theorem cent (Y : Int) : 146097 * (Y / 100 + 2922770224) / 4 + 1461 * (Y % 100) / 4 = 365 * Y + Y / 4 - Y / 100 + Y / 400 + 106751990353932 := by
  obtain ⟨c, hc⟩ : ∃ c, c = Y / 100 := ⟨_, rfl⟩
  obtain ⟨r, hr⟩ : ∃ r, r = Y % 100 := ⟨_, rfl⟩
  have hY : Y = 100 * c + r := by omega
  have e1 : Y / 4 = 25 * c + r / 4 := by omega
  have e2 : Y / 400 = c / 4 := by omega
  have e3 : 146097 * (c + 2922770224) / 4 = 36524 * c + c / 4 + 106751990353932 := by omega
  have e4 : 1461 * r / 4 = 365 * r + r / 4 := by omega
  rw [← hc, ← hr, e1, e2, e3, e4]
  omega

theorem core (c r f D : Int) (hr0 : 0 ≤ r) (hr1 : r < 100) (hf0 : 0 ≤ f) (hf1 : f ≤ 365) (hf2 : f = 365 → r % 4 = 3 ∧ (r ≠ 99 ∨ c % 4 = 3)) (hD : D = 146097 * c / 4 + 1461 * r / 4 + f) :
    cenF D = c ∧ cyrF D = r ∧ aydF D = f := by
  obtain ⟨e, he⟩ : ∃ e, e = 1461 * r / 4 + f := ⟨_, rfl⟩
  have e0 : 0 ≤ e := by omega
  have e1 : e ≤ 36523 ∨ (e = 36524 ∧ c % 4 = 3) := by
    by_cases h : f = 365
    · have := hf2 h; omega
    · omega
  have h1 : 4 * D + 3 = 146097 * c + (4 * e + 3 - c % 4) := by omega
  have hs := split146097 c (4 * e + 3 - c % 4) (by omega) (by omega)
  have h2 : cenF D = c := by unfold cenF; rw [h1]; exact hs.1
  have h3 : (4 * D + 3) % 146097 = 4 * e + 3 - c % 4 := by rw [h1]; exact hs.2
  have h4 : cdF D = 4 * e + 3 := by unfold cdF; rw [h3]; omega
  have h5 : 4 * e + 3 = 1461 * r + (4 * f + 3 - r % 4) := by omega
  have h6 : 0 ≤ 4 * f + 3 - r % 4 ∧ 4 * f + 3 - r % 4 < 1461 := by
    by_cases h : f = 365
    · have := hf2 h; omega
    · omega
  have hs2 := split1461 r (4 * f + 3 - r % 4) h6.1 h6.2
  refine ⟨h2, ?_, ?_⟩
  · unfold cyrF; rw [h4, h5]; exact hs2.1
  · unfold aydF; rw [h4, h5, hs2.2]; omega

/-- a day of a year by its number: from March on, and ahead of March. -/
theorem of_day_late (y k D : Int) (h1 : 60 + lpY y ≤ k) (h2 : k ≤ 365 + lpY y) (hD : D = dbY y + k + 106751990354237) :
    cenF D = y / 100 + 2922770224 ∧ cyrF D = y % 100 ∧ aydF D = k - 60 - lpY y := by
  have hb := lpY_bd y
  refine core _ _ _ _ (by omega) (by omega) (by omega) (by omega) (by omega) ?_
  have hc := cent y
  have hs : dbY y = 365 * y + y / 4 - y / 100 + y / 400 - 365 - lpY y := by have := dbY_next y; omega
  rw [hc, hD, hs]
  omega
theorem of_day_early (y k D : Int) (h1 : 1 ≤ k) (h2 : k ≤ 59 + lpY y) (hD : D = dbY y + k + 106751990354237) :
    cenF D = (y - 1) / 100 + 2922770224 ∧ cyrF D = (y - 1) % 100 ∧ aydF D = k + 305 := by
  have hb := lpY_bd y
  refine core _ _ _ _ (by omega) (by omega) (by omega) (by omega) ?_ ?_
  · intro h
    have hl : lpY y = 1 := by omega
    unfold lpY at hl
    split at hl <;> omega
  · have hc := cent (y - 1)
    rw [hc, hD]
    unfold dbY
    omega

theorem of_day (y k D : Int) (h1 : 1 ≤ k) (h2 : k ≤ 365 + lpY y) (hD : D = dbY y + k + 106751990354237) : yearF D = y ∧ ydayF D = k := by
  by_cases h : k ≤ 59 + lpY y
  · obtain ⟨a, b, c⟩ := of_day_early y k D h1 h hD
    have hj : jfY (k + 305) = 1 := by unfold jfY; rw [if_pos (by omega)]
    unfold yearF ydayF
    rw [a, b, c, hj]
    refine ⟨by omega, by simp; omega⟩
  · obtain ⟨a, b, c⟩ := of_day_late y k D (by omega) h2 hD
    have hj : jfY (k - 60 - lpY y) = 0 := by unfold jfY; rw [if_neg (by omega)]
    have hl : leapF (y / 100 + 2922770224) (y % 100) = lpY y := by
      unfold leapF lpY
      split <;> split <;> omega
    unfold yearF ydayF
    rw [a, b, c, hj, hl]
    refine ⟨by omega, by simp; omega⟩

theorem months (m : Int) (h1 : 1 ≤ m) (h2 : m ≤ 12) : m = 1 ∨ m = 2 ∨ m = 3 ∨ m = 4 ∨ m = 5 ∨ m = 6 ∨ m = 7 ∨ m = 8 ∨ m = 9 ∨ m = 10 ∨ m = 11 ∨ m = 12 := by omega

theorem lenM_bd (y m : Int) : 28 ≤ lenM y m ∧ lenM y m ≤ 31 := by
  have := lpY_bd y
  unfold lenM
  split
  · omega
  · split <;> omega

set_option maxHeartbeats 4000000 in
theorem abs_day (y m d : Int) (h1 : 1 ≤ m) (h2 : m ≤ 12) (h3 : 1 ≤ d) (h4 : d ≤ lenM y m) :
    absF y m d = dbY y + (cumM y m + d) + 106751990354237 ∧ 1 ≤ cumM y m + d ∧ cumM y m + d ≤ 365 + lpY y := by
  have hb := lpY_bd y
  have hc0 := cent y
  have hc1 := cent (y - 1)
  have hs : dbY y = 365 * y + y / 4 - y / 100 + y / 400 - 365 - lpY y := by have := dbY_next y; omega
  have hs1 : dbY y = 365 * (y - 1) + (y - 1) / 4 - (y - 1) / 100 + (y - 1) / 400 := rfl
  have hY : ∀ z : Int, (z + 292277022400) / 100 = z / 100 + 2922770224 ∧ (z + 292277022400) % 100 = z % 100 := by intro z; omega
  have hA : absF y m d = 146097 * ((y - jfM m) / 100 + 2922770224) / 4 + 1461 * ((y - jfM m) % 100) / 4 + (979 * amoF m - 2919) / 32 + d - 1 := by
    unfold absF
    rw [(hY (y - jfM m)).1, (hY (y - jfM m)).2]
  rcases months m h1 h2 with rfl | rfl | rfl | rfl | rfl | rfl | rfl | rfl | rfl | rfl | rfl | rfl
  all_goals
    simp only [lenM, cumM] at h4 ⊢
    simp [jfM, amoF] at hA h4 ⊢
    refine ⟨?_, by omega, by omega⟩
    rw [hA]
    first | (rw [hc1]; omega) | (rw [hc0]; omega)

set_option maxHeartbeats 4000000 in
theorem of_date (y m d : Int) (h1 : 1 ≤ m) (h2 : m ≤ 12) (h3 : 1 ≤ d) (h4 : d ≤ lenM y m) :
    yearF (absF y m d) = y ∧ monthF (absF y m d) = m ∧ dayF (absF y m d) = d ∧ ydayF (absF y m d) = cumM y m + d := by
  obtain ⟨hD, k0, k1⟩ := abs_day y m d h1 h2 h3 h4
  obtain ⟨a, b⟩ := of_day y _ _ k0 k1 hD
  refine ⟨a, ?_, ?_, b⟩
  all_goals
    clear a b
    have hb := lpY_bd y
    first | unfold monthF | unfold dayF
    by_cases hm : m < 3
    · have hc := (of_day_early y _ _ k0 (by rcases (show m = 1 ∨ m = 2 by omega) with rfl | rfl <;> simp [cumM, lenM] at h4 ⊢ <;> omega) hD).2.2
      rw [hc]
      clear hD hc
      rcases (show m = 1 ∨ m = 2 by omega) with rfl | rfl <;> simp [cumM, lenM, amY, mdY, jfY] at h4 k0 k1 ⊢
      all_goals first | omega | (rw [if_pos (by omega)]; omega)
    · have hc := (of_day_late y _ _ (by rcases months m h1 h2 with rfl | rfl | rfl | rfl | rfl | rfl | rfl | rfl | rfl | rfl | rfl | rfl <;> simp [cumM, lenM] at h4 hm ⊢ <;> omega) k1 hD).2.2
      rw [hc]
      clear hD hc
      rcases months m h1 h2 with rfl | rfl | rfl | rfl | rfl | rfl | rfl | rfl | rfl | rfl | rfl | rfl <;> simp [cumM, lenM, amY, mdY, jfY] at h4 k0 k1 hm ⊢
      all_goals first | omega | (rw [if_neg (by omega)]; omega)

/-- how many weeks a year has. -/
def weeksF (y : Int) : Int := if (y + y / 4 - y / 100 + y / 400) % 7 = 4 ∨ (y - 1 + (y - 1) / 4 - (y - 1) / 100 + (y - 1) / 400) % 7 = 3 then 53 else 52
def wdF (y k : Int) : Int := (dbY y + k) % 7
def isoWeek0 (y k : Int) : Int := (k - ((wdF y k + 6) % 7 + 1) + 10) / 7
/-- the year and the week of a day. -/
def isoY (y k : Int) : Int := if isoWeek0 y k < 1 then y - 1 else if isoWeek0 y k > weeksF y then y + 1 else y
def isoW (y k : Int) : Int := if isoWeek0 y k < 1 then weeksF (y - 1) else if isoWeek0 y k > weeksF y then 1 else isoWeek0 y k

theorem dbY_succ (y : Int) : dbY (y + 1) = dbY y + 365 + lpY y := by
  have h := dbY_next y
  have e : dbY (y + 1) = 365 * y + y / 4 - y / 100 + y / 400 := by unfold dbY; rw [show y + 1 - 1 = y by omega]
  rw [e, h]
theorem weeks_dbY (y : Int) : weeksF y = if dbY (y + 1) % 7 = 4 ∨ dbY y % 7 = 3 then 53 else 52 := by
  unfold weeksF
  have a : (y + y / 4 - y / 100 + y / 400) % 7 = dbY (y + 1) % 7 := by unfold dbY; rw [show y + 1 - 1 = y by omega]; omega
  have b : (y - 1 + (y - 1) / 4 - (y - 1) / 100 + (y - 1) / 400) % 7 = dbY y % 7 := by unfold dbY; omega
  rw [a, b]

theorem wd_of (y k D : Int) (hD : D = dbY y + k + 106751990354237) : (D + 3) % 7 = wdF y k := by
  unfold wdF; omega

theorem iso_of_day (y k D : Int) (h1 : 1 ≤ k) (h2 : k ≤ 365 + lpY y) (hD : D = dbY y + k + 106751990354237) :
    yearF (thuF D) = isoY y k ∧ (ydayF (thuF D) - 1) / 7 + 1 = isoW y k := by
  have hT : thuF D = dbY y + (k + 4 - ((wdF y k + 6) % 7 + 1)) + 106751990354237 := by unfold thuF wdF; omega
  have hw : wdF y k = (dbY y + k) % 7 := rfl
  have w0 := weeks_dbY y
  have w1 := weeks_dbY (y - 1)
  have s0 := dbY_succ y
  have s1 := dbY_succ (y - 1)
  rw [show y - 1 + 1 = y by omega] at w1 s1
  have b0 := lpY_bd y
  have b1 := lpY_bd (y - 1)
  have b2 := lpY_bd (y + 1)
  unfold isoY isoW isoWeek0
  generalize wdF y k = wd at *
  generalize hN : dbY y = N at *
  obtain ⟨kT, hkT⟩ : ∃ kT, kT = k + 4 - ((wd + 6) % 7 + 1) := ⟨_, rfl⟩
  rw [← hkT] at hT
  by_cases c0 : kT < 1
  · have e := of_day (y - 1) (kT + 365 + lpY (y - 1)) (thuF D) (by omega) (by omega) (by omega)
    have hlt : (k - ((wd + 6) % 7 + 1) + 10) / 7 < 1 := by omega
    simp only [e.1, e.2, if_pos hlt, w1]
    refine ⟨trivial, ?_⟩
    split <;> omega
  · by_cases c1 : kT ≤ 365 + lpY y
    · have e := of_day y kT (thuF D) (by omega) c1 (by rw [hN]; exact hT)
      have hle : ¬ (k - ((wd + 6) % 7 + 1) + 10) / 7 > weeksF y := by
        rw [w0]; split <;> omega
      have hlt : ¬ (k - ((wd + 6) % 7 + 1) + 10) / 7 < 1 := by omega
      simp only [e.1, e.2, if_neg hlt, if_neg hle]
      refine ⟨trivial, ?_⟩
      omega
    · have e := of_day (y + 1) (kT - 365 - lpY y) (thuF D) (by omega) (by omega) (by omega)
      have hgt : (k - ((wd + 6) % 7 + 1) + 10) / 7 > weeksF y := by
        rw [w0]; split <;> omega
      have hlt : ¬ (k - ((wd + 6) % 7 + 1) + 10) / 7 < 1 := by omega
      simp only [e.1, e.2, if_neg hlt, if_pos hgt]
      refine ⟨trivial, ?_⟩
      omega
end Go.Proofs.YtkcgngpoegglnaaGreatDoor
end
/- Contracts of the functions that make a row of bytes and append to it. -/
section
namespace Go.Proofs.YtkcgngpoegglnaaGreatDoor
open Go Go.RowKit
set_option linter.unusedVariables false

theorem appendInt1_any (v : Value) (i : Int) (g : Nat) (bs : List UInt8) (w : World) (h : Buf w g v bs) (h0 : 0 ≤ i) (h1 : i ≤ 9) (hl : bs.length ≤ 900000) :
    Calls Tryz.prog 72 #[v, .int .i64 i] w (AppPost w g (bs ++ [dg i])) := by
  go_enter Tryz.func72, Tryz.ntmps72
  go_wp2_with (first | (at_builtin; refine wpList_append_buf rfl _ _ 34 rfl rfl rfl (h.alloc _) (bytesIn_new1 _ _ _ (bv_dg i h0 h1)) (by simp; omega) ?_; intro g' v' w' happ))
  go_ret
  exact ⟨_, _, rfl, happ.pre ((Below.refl _ _).alloc (Nat.le_refl _) _)⟩

/-- the digits of the numbers below a hundred. -/
abbrev smalls : ByteArray := ⟨#[48, 48, 48, 49, 48, 50, 48, 51, 48, 52, 48, 53, 48, 54, 48, 55, 48, 56, 48, 57, 49, 48, 49, 49, 49, 50, 49, 51, 49, 52, 49, 53, 49, 54, 49, 55, 49, 56, 49, 57, 50, 48, 50, 49, 50, 50, 50, 51, 50, 52, 50, 53, 50, 54, 50, 55, 50, 56, 50, 57, 51, 48, 51, 49, 51, 50, 51, 51, 51, 52, 51, 53, 51, 54, 51, 55, 51, 56, 51, 57, 52, 48, 52, 49, 52, 50, 52, 51, 52, 52, 52, 53, 52, 54, 52, 55, 52, 56, 52, 57, 53, 48, 53, 49, 53, 50, 53, 51, 53, 52, 53, 53, 53, 54, 53, 55, 53, 56, 53, 57, 54, 48, 54, 49, 54, 50, 54, 51, 54, 52, 54, 53, 54, 54, 54, 55, 54, 56, 54, 57, 55, 48, 55, 49, 55, 50, 55, 51, 55, 52, 55, 53, 55, 54, 55, 55, 55, 56, 55, 57, 56, 48, 56, 49, 56, 50, 56, 51, 56, 52, 56, 53, 56, 54, 56, 55, 56, 56, 56, 57, 57, 48, 57, 49, 57, 50, 57, 51, 57, 52, 57, 53, 57, 54, 57, 55, 57, 56, 57, 57]⟩

theorem smalls_fin : ∀ i : Fin 100, (smalls.extract (i.val * 2) (i.val * 2 + 2)).data.toList = [dg ((i.val : Int) / 10), dg ((i.val : Int) % 10)] := by decide +kernel

theorem smalls_ok (i : Int) (h0 : 0 ≤ i) (h1 : i ≤ 99) : (smalls.extract (i * 2).toNat (i * 2 + 2).toNat).data.toList = [dg (i / 10), dg (i % 10)] := by
  obtain ⟨n, rfl⟩ := Int.eq_ofNat_of_zero_le h0
  have := smalls_fin ⟨n, by omega⟩
  have e1 : ((n : Int) * 2).toNat = n * 2 := by omega
  have e2 : ((n : Int) * 2 + 2).toNat = n * 2 + 2 := by omega
  rw [e1, e2]
  exact this

theorem bytesIn_smalls (w : World) (i : Int) (h0 : 0 ≤ i) (h1 : i ≤ 99) : BytesIn w 9 (.string (smalls.extract (i * 2).toNat (i * 2 + 2).toNat)) [dg (i / 10), dg (i % 10)] := by
  have := bytesIn_string w (smalls.extract (i * 2).toNat (i * 2 + 2).toNat)
  rw [smalls_ok i h0 h1] at this
  exact this

set_option maxRecDepth 100000 in
theorem appendInt2_zero (v : Value) (i : Int) (g : Nat) (bs : List UInt8) (w : World) (h : Buf w g v bs) (h0 : 0 ≤ i) (h1 : i ≤ 99) (hl : bs.length ≤ 800000) :
    Calls Tryz.prog 57 #[v, .int .i64 i, .int .u8 0] w (AppPost w g (bs ++ [dg (i / 10), dg (i % 10)])) := by
  go_enter Tryz.func57, Tryz.ntmps57
  go_wp2_with (first | (at_builtin; refine wpList_append_buf rfl _ _ 9 rfl rfl rfl h (bytesIn_smalls _ i h0 h1) (by simp; omega) ?_; intro g' v' w' happ))
  go_ret
  exact ⟨_, _, rfl, happ⟩

set_option maxRecDepth 100000 in
theorem appendInt2_big (v : Value) (i : Int) (g : Nat) (bs : List UInt8) (w : World) (h : Buf w g v bs) (h0 : 10 ≤ i) (h1 : i ≤ 99) (hl : bs.length ≤ 800000) :
    Calls Tryz.prog 57 #[v, .int .i64 i, .int .u8 32] w (AppPost w g (bs ++ [dg (i / 10), dg (i % 10)])) := by
  go_enter Tryz.func57, Tryz.ntmps57
  go_wp2_with (first | (at_builtin; refine wpList_append_buf rfl _ _ 9 rfl rfl rfl h (bytesIn_smalls _ i (by omega) h1) (by simp; omega) ?_; intro g' v' w' happ))
  go_ret
  exact ⟨_, _, rfl, happ⟩

set_option maxRecDepth 100000 in
theorem appendInt2_small (v : Value) (i : Int) (g : Nat) (bs : List UInt8) (w : World) (h : Buf w g v bs) (h0 : 0 ≤ i) (h1 : i ≤ 9) (hl : bs.length ≤ 800000) :
    Calls Tryz.prog 57 #[v, .int .i64 i, .int .u8 32] w (AppPost w g (bs ++ [32, dg i])) := by
  go_enter Tryz.func57, Tryz.ntmps57
  go_wp2_with (first | (at_builtin; refine wpList_append_buf rfl _ _ 34 rfl rfl rfl (h.alloc _) (bytesIn_new1 _ 32 _ rfl) (by simp; omega) ?_; intro g' v' w' happ) | (go_at_call 72; refine (appendInt1_any _ i _ _ _ happ.buf h0 h1 (by simp; omega)).mono ?_; rintro e w'' ⟨g'', v'', rfl, happ2⟩))
  go_ret
  have r := (happ.pre ((Below.refl _ _).alloc (Nat.le_refl _) _)).trans happ2
  rw [List.append_assoc] at r
  exact ⟨_, _, rfl, r⟩

theorem utod_any (u : Int) (w : World) (h0 : 0 ≤ u) (h1 : u ≤ 9) : Calls Tryz.prog 123 #[.int .u64 u] w fun e w' => e = .returned (.int .u8 (48 + u)) ∧ w = w' := by
  go_enter Tryz.func123, Tryz.ntmps123
  go_wp2
  go_ret
  exact ⟨rfl, rfl⟩

set_option maxRecDepth 100000 in
theorem appendInt_two (v : Value) (x : Int) (g : Nat) (bs : List UInt8) (w : World) (h : Buf w g v bs) (h0 : 0 ≤ x) (h1 : x ≤ 99) (hl : bs.length ≤ 700000) :
    Calls Tryz.prog 110 #[v, .int .i64 x, .int .i64 2] w (AppPost w g (bs ++ [dg (x / 10), dg (x % 10)])) := by
  go_enter Tryz.func110, Tryz.ntmps110
  go_wp2_with (first | (go_at_call 123; refine (utod_any _ _ (by omega) (by omega)).mono ?_; rintro e w' ⟨rfl, rfl⟩) | (at_builtin; refine wpList_append_buf rfl _ _ 34 rfl rfl rfl (h.alloc _) (bytesIn_new2 _ (dg (x / 10)) (dg (x % 10)) _ _ (bv_dg _ (by omega) (by omega)) (bv_dg _ (by omega) (by omega))) (by simp; omega) ?_; intro g' v' w' happ))
  go_ret
  exact ⟨_, _, rfl, happ.pre ((Below.refl _ _).alloc (Nat.le_refl _) _)⟩

set_option maxRecDepth 100000 in
theorem appendInt_four (v : Value) (x : Int) (g : Nat) (bs : List UInt8) (w : World) (h : Buf w g v bs) (h0 : 0 ≤ x) (h1 : x ≤ 9999) (hl : bs.length ≤ 700000) :
    Calls Tryz.prog 110 #[v, .int .i64 x, .int .i64 4] w (AppPost w g (bs ++ [dg (x / 1000), dg (x / 100 % 10), dg (x / 10 % 10), dg (x % 10)])) := by
  go_enter Tryz.func110, Tryz.ntmps110
  go_wp2_with (first | (go_at_call 123; refine (utod_any _ _ (by omega) (by omega)).mono ?_; rintro e w' ⟨rfl, rfl⟩) | (at_builtin; refine wpList_append_buf rfl _ _ 34 rfl rfl rfl (h.alloc _) (bytesIn_new4 _ (dg (x / 1000)) (dg (x / 100 % 10)) (dg (x / 10 % 10)) (dg (x % 10)) _ _ _ _ (bv_dg _ (by omega) (by omega)) (bv_dg _ (by omega) (by omega)) (bv_dg _ (by omega) (by omega)) (bv_dg _ (by omega) (by omega))) (by simp; omega) ?_; intro g' v' w' happ))
  go_ret
  exact ⟨_, _, rfl, happ.pre ((Below.refl _ _).alloc (Nat.le_refl _) _)⟩

end Go.Proofs.YtkcgngpoegglnaaGreatDoor
end
/- The second package: a row of bytes held in a captured variable; the closure that appends a letter. -/
section
namespace Go.Proofs.YtkcgngpoegglnaaGreatDoor
open Go Go.RowKit
set_option linter.unusedVariables false
set_option linter.unusedSimpArgs false

/-- the variable in block b holds the slice v, which reads out from the head of block g. -/
structure DstAt (w : World) (b g : Nat) (v : Value) (out : List UInt8) : Prop where
  at_ : w.heap[b]? = some (.cells #[v] 34 (0, 0))
  buf : Buf w g v out

theorem DstAt.ne {w : World} {b g : Nat} {v : Value} {out : List UInt8} (h : DstAt w b g v out) : b ≠ g := by
  rintro rfl
  obtain ⟨rest, T, rfl, hg, hm⟩ := h.buf
  have e := h.at_.symm.trans hg
  simp only [Option.some.injEq, Obj.cells.injEq] at e
  have e1 : [Value.slice (some ⟨b, 0, none⟩) out.length (out ++ rest).length] = cellsOfBytes (out ++ rest) := by
    have := congrArg Array.toList e.1
    simpa using this
  cases hx : out ++ rest with
  | nil => rw [hx] at e1; simp [cellsOfBytes] at e1
  | cons c l => rw [hx] at e1; simp [cellsOfBytes, bv] at e1

theorem DstAt.lt {w : World} {b g : Nat} {v : Value} {out : List UInt8} (h : DstAt w b g v out) : b < w.heap.size := (Array.getElem?_eq_some_iff.1 h.at_).1

/-- what a call that appends to the row in the variable leaves. -/
structure Wrote (w : World) (b g : Nat) (out : List UInt8) (g' : Nat) (v' : Value) (w' : World) : Prop where
  dst : DstAt w' b g' v' out
  os : w'.os = w.os
  tape : w'.tape = w.tape
  output : w'.output = w.output
  size : w.heap.size ≤ w'.heap.size
  block : ∀ k, k < w.heap.size → k ≠ g → k ≠ b → w'.heap[k]? = w.heap[k]?
  at_ : g' = g ∨ w.heap.size ≤ g'

theorem Wrote.refl {w : World} {b g : Nat} {v : Value} {out : List UInt8} (h : DstAt w b g v out) : Wrote w b g out g v w :=
  ⟨h, rfl, rfl, rfl, Nat.le_refl _, fun _ _ _ _ => rfl, .inl rfl⟩

theorem Wrote.trans {w w1 w' : World} {b g g1 g' : Nat} {o1 o2 : List UInt8} {v1 v' : Value} (h : Wrote w b g o1 g1 v1 w1) (h' : Wrote w1 b g1 o2 g' v' w') : Wrote w b g o2 g' v' w' :=
  ⟨h'.dst, h'.os.trans h.os, h'.tape.trans h.tape, h'.output.trans h.output, Nat.le_trans h.size h'.size, fun k hk hg hb => (h'.block k (Nat.lt_of_lt_of_le hk h.size) (by
    intro e; subst e
    rcases h.at_ with e | e
    · exact hg e
    · omega) hb).trans (h.block k hk hg hb), by
    rcases h'.at_ with e | e
    · subst e; exact h.at_
    · exact .inr (Nat.le_trans h.size e)⟩

/-- an append, and its value stored in the variable. -/
theorem Wrote.of_append {w w1 : World} {b g g' : Nat} {v v' : Value} {o1 out : List UInt8} (h : DstAt w b g v o1) (happ : Appended w g out g' v' w1) : Wrote w b g out g' v' (w1.setCell ⟨b, 0, none⟩ v') := by
  have hlt := h.lt
  have hb1 : w1.heap[b]? = some (.cells #[v] 34 (0, 0)) := (happ.grown.block b hlt (by intro e; cases e; exact h.ne rfl)).trans h.at_
  have hg' : b ≠ g' := by
    rcases happ.at_ with e | e
    · rw [e]; exact h.ne
    · omega
  refine ⟨⟨?_, happ.buf.setCell _ _ hg'⟩, happ.grown.os, happ.grown.tape, happ.grown.output, by simpa using happ.grown.size, fun k hk hg hb => ?_, happ.at_⟩
  · rw [one_setCell hb1]
  · exact (Below.heap_setCell w1 ⟨b, 0, none⟩ v' k (by simpa using hb)).trans (happ.grown.block k hk (by intro e; cases e; exact hg rfl))

theorem Wrote.pre {w w1 w' : World} {b g g' : Nat} {out : List UInt8} {v' : Value} (hb : Below w.heap.size w w1) (h : Wrote w1 b g out g' v' w') : Wrote w b g out g' v' w' :=
  ⟨h.dst, h.os.trans hb.os, h.tape.trans hb.tape, h.output.trans hb.output, Nat.le_trans hb.size h.size, fun k hk hg hbk => (h.block k (Nat.lt_of_lt_of_le hk hb.size) hg hbk).trans (hb.block k hk), h.at_.imp id fun e => Nat.le_trans hb.size e⟩

theorem DstAt.below {w w' : World} {b g : Nat} {v : Value} {out : List UInt8} (h : DstAt w b g v out) (hb : Below w.heap.size w w') : DstAt w' b g v out :=
  ⟨(hb.block b h.lt).trans h.at_, h.buf.below hb h.buf.lt⟩

theorem Wrote.post {w w1 w' : World} {b g g' : Nat} {out : List UInt8} {v' : Value} (h : Wrote w b g out g' v' w1) (hb : Below w1.heap.size w1 w') : Wrote w b g out g' v' w' :=
  ⟨h.dst.below hb, hb.os.trans h.os, hb.tape.trans h.tape, hb.output.trans h.output, Nat.le_trans h.size hb.size, fun k hk hg hbk => (hb.block k (Nat.lt_of_lt_of_le hk h.size)).trans (h.block k hk hg hbk), h.at_⟩

/-- whatever lies below both blocks stands. -/
theorem Wrote.below {w w' : World} {b g g' B : Nat} {out : List UInt8} {v' : Value} (h : Wrote w b g out g' v' w') (h1 : B ≤ g) (h2 : B ≤ b) (h3 : B ≤ w.heap.size) : Below B w w' :=
  ⟨h.os, h.tape, h.output, h.size, fun k hk => h.block k (by omega) (by omega) (by omega)⟩

/-- the end of a closure that appends. -/
def WrotePost (w : World) (b g : Nat) (out : List UInt8) (e : Ending) (w' : World) : Prop := e = .returned .nilIface ∧ ∃ g' v', Wrote w b g out g' v' w'

theorem bv_byte (c : UInt8) : Value.int .u8 (c.toNat : Int) = bv c := rfl

theorem Buf.shape {w : World} {g : Nat} {v : Value} {bs : List UInt8} (h : Buf w g v bs) : ∃ n cap : Nat, v = .slice (some ⟨g, 0, none⟩) n cap := by
  obtain ⟨cap, e, _⟩ := h.slice
  exact ⟨_, cap, e⟩

theorem DstAt.cells_append {w w1 : World} {b g g' : Nat} {v v' : Value} {o1 out : List UInt8} (h : DstAt w b g v o1) (happ : Appended w g out g' v' w1) : w1.cell? ⟨b, 0, none⟩ = some v ∧ w1.frozen? ⟨b, 0, none⟩ = false := by
  have hb1 : w1.heap[b]? = some (.cells #[v] 34 (0, 0)) := (happ.grown.block b h.lt (by intro e; cases e; exact h.ne rfl)).trans h.at_
  exact ⟨cell_of_one hb1, free_of_one hb1⟩

theorem DstAt.alloc {w : World} {b g : Nat} {v : Value} {out : List UInt8} (h : DstAt w b g v out) (o : Obj) : DstAt (w.alloc o) b g v out := h.below ((Below.refl _ _).alloc (Nat.le_refl _) _)

set_option maxRecDepth 100000 in
theorem lit_any (c : UInt8) (b g : Nat) (v : Value) (out : List UInt8) (w : World) (h : DstAt w b g v out) (hl : out.length ≤ 800000) :
    Calls Tryz.prog 51 #[.int .u8 c.toNat, .pointer (some ⟨b, 0, none⟩)] w (WrotePost w b g (out ++ [c])) := by
  have hc0 := cell_of_one h.at_
  have hf0 := free_of_one h.at_
  have hB := h.buf
  go_enter Tryz.func51, Tryz.ntmps51
  go_wp2_with (first | (at_builtin; refine wpList_append_buf rfl _ _ 34 rfl (by go_simp) (by go_simp) (hB.alloc _) (bytesIn_new1 _ c _ rfl) (by simp; omega) ?_; intro g' v' w1 happ; obtain ⟨n', cap', rfl⟩ := happ.buf.shape; have hW := Lib.hid (Wrote.of_append (h.alloc _) happ); obtain ⟨hcb, hfb⟩ := (h.alloc _).cells_append happ))
  go_ret
  exact ⟨rfl, g', _, hW.out.pre ((Below.refl _ _).alloc (Nat.le_refl _) _)⟩
end Go.Proofs.YtkcgngpoegglnaaGreatDoor
end
