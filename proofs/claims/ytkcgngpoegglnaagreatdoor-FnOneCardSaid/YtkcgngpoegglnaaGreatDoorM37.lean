/- The first package: an appender writes its text. -/
import Derived.Test.YtkcgngpoegglnaaGreatDoorM21
import Derived.Test.YtkcgngpoegglnaaGreatDoorM32
import Derived.Test.YtkcgngpoegglnaaGreatDoorM36
namespace Go.Proofs.YtkcgngpoegglnaaGreatDoor
open Go Go.RowKit
set_option linter.unusedVariables false
set_option linter.unusedSimpArgs false

theorem okLay_of {ats : List Atom} (h : okAtoms ats) (h2 : no002 ats) : okLay ats :=
  ⟨h, fun hm => h2 (List.mem_of_mem_drop hm)⟩

/-- the call enters the function's own text. -/
def Enters (k : Nat) : Prop := ∀ args w, (callFunc k args).run Tryz.prog w = .ok (.enter k args) w

theorem enters_225 : Enters 225 := fun _ _ => by go_simp
theorem enters_229 : Enters 229 := fun _ _ => by go_simp
theorem enters_219 : Enters 219 := fun _ _ => by go_simp
theorem enters_224 : Enters 224 := fun _ _ => by go_simp
theorem enters_223 : Enters 223 := fun _ _ => by go_simp

section
variable {w : World} {C : Nat} {wl ex : Int} {lc : Option Addr} {T : STime} {g : Nat} {v v0 : Value} {out x : List UInt8} {a : Ap}

/-- whatever appender: its method, and what that writes. -/
theorem app_any (hR : RightT T) (h : Env w C wl ex lc (absT T) T.nm T.off) (hv : ApIs w v0 a) (hok : ApOK T a x) (hal : a.len ≤ 1000) (hB : Buf w g v out) (hg : C ≤ g) (hl : (out ++ x).length ≤ 400000) :
    ∃ t u k r, v0 = .iface t u ∧ (method 373 t u "Append").run Tryz.prog w = .ok (k, r) w ∧ Enters k ∧ Calls Tryz.prog k #[r, v, .agg #[.int .u64 wl, .int .i64 ex, .pointer lc]] w (AppPost w g (out ++ x)) := by
  have N := nums_of hR
  have hO := okTime_of hR
  have h1 := h.c1
  have hl0 : out.length ≤ 400000 := by rw [List.length_append] at hl; omega
  have hwd : 0 ≤ wdT T ∧ wdT T ≤ 6 := by rw [← N.wd]; omega
  cases a with
  | other => cases hok
  | std s =>
    obtain ⟨p, rfl, hp⟩ := hv
    obtain ⟨ats, rfl, k1, k2, rfl⟩ := hok.ofStd
    exact ⟨_, _, _, _, rfl, m_app_std p _ w (cell_of_one hp), enters_225, std_any h hO ats (okLay_of k1 k2) hal (by omega) hB hl⟩
  | verb s =>
    obtain ⟨p, rfl, hp⟩ := hv
    obtain ⟨rfl, k1⟩ := hok.ofVerb
    exact ⟨_, _, _, _, rfl, m_app_verb p _ w (cell_of_one hp), enters_229, verb_any x _ rfl hB hl⟩
  | fn k =>
    obtain rfl : v0 = _ := hv
    refine ⟨_, _, _, _, rfl, m_app_fn _ w, enters_219, func_any k x h hB hg ?_ fun w' h' hB' => ?_⟩
    · cases hok <;> simp
    · cases hok with
      | cent => rw [← N.y]; exact cent_any h' hB' hg hl0 (by rw [N.y]; have := hR.y0; omega) (by rw [N.y]; exact hR.y1)
      | yday => rw [← N.yd]; exact yday_app h' hB' hg hl0
      | week => rw [← N.iw]; exact week_app h' hB' hg hl0
  | wd n =>
    obtain rfl : v0 = _ := hv
    refine ⟨_, _, _, _, rfl, m_app_wd _ w, enters_224, ?_⟩
    cases hok with
    | wd0 => exact wd_any 0 (.inl rfl) h hB hl0 (wdT T) (by rw [N.wd, if_neg (by omega)])
    | wd1 => exact wd_any 1 (.inr rfl) h hB hl0 ((wdT T + 6) % 7 + 1) (by rw [N.wd]; split <;> omega)
  | wk b =>
    obtain rfl : v0 = _ := hv
    refine ⟨_, _, _, _, rfl, m_app_wk _ w, enters_223, ?_⟩
    cases hok with
    | wkS => rw [← N.yd, ← N.wd]; exact wk_sun h hB hg hl0
    | wkM => rw [← N.yd, ← N.wd]; exact wk_mon h hB hg hl0
end
end Go.Proofs.YtkcgngpoegglnaaGreatDoor
