/- The first package: an appender is added: all the cases joined. -/
import Derived.Test.YtkcgngpoegglnaaGreatDoorM20
import Derived.Test.YtkcgngpoegglnaaGreatDoorM19
namespace Go.Proofs.YtkcgngpoegglnaaGreatDoor
open Go Go.RowKit
set_option linter.unusedVariables false
set_option linter.unusedSimpArgs false

theorem no002_append {a b : List Atom} (ha : no002 a) (hb : no002 b) : no002 (a ++ b) := by
  intro h
  rcases List.mem_append.1 h with h | h
  · exact ha h
  · exact hb h

theorem okAtoms_chs {s : List UInt8} (h : ∀ c ∈ s, okCh c = true) : okAtoms (s.map Atom.ch) := by
  intro a ha
  obtain ⟨c, hc, rfl⟩ := List.mem_map.1 ha
  exact h c hc
theorem no002_chs (s : List UInt8) : no002 (s.map Atom.ch) := by
  intro h
  obtain ⟨c, _, e⟩ := List.mem_map.1 h
  cases e

theorem ApOK.ofVerb {T : STime} {s z : List UInt8} (h : ApOK T (.verb s) z) : z = s ∧ ∀ c ∈ s, okCh c = true := by
  cases h with
  | verb _ h => exact ⟨rfl, h⟩
theorem ApOK.ofStd {T : STime} {s z : List UInt8} (h : ApOK T (.std s) z) : ∃ ats, s = lay ats ∧ okAtoms ats ∧ no002 ats ∧ z = layText (absT T) T.nm T.off ats := by
  cases h with
  | std ats h h2 => exact ⟨ats, rfl, h, h2, rfl⟩
theorem ApOK.toStd {T : STime} {s z : List UInt8} (h : ApOK T (.verb s) z) : ApOK T (.std s) z := by
  obtain ⟨rfl, hc⟩ := h.ofVerb
  have := ApOK.std (T := T) (z.map Atom.ch) (okAtoms_chs hc) (no002_chs z)
  rw [lay_chs, layText_chs] at this
  exact this
theorem ApOK.joinStd {T : STime} {s1 s2 z1 z2 : List UInt8} (h1 : ApOK T (.std s1) z1) (h2 : ApOK T (.std s2) z2) : ApOK T (.std (s1 ++ s2)) (z1 ++ z2) := by
  obtain ⟨a1, rfl, k1, n1, rfl⟩ := h1.ofStd
  obtain ⟨a2, rfl, k2, n2, rfl⟩ := h2.ofStd
  rw [← lay_append, ← layText_append]
  exact .std _ (okAtoms_append k1 k2) (no002_append n1 n2)
theorem ApOK.joinVerb {T : STime} {s1 s2 z1 z2 : List UInt8} (h1 : ApOK T (.verb s1) z1) (h2 : ApOK T (.verb s2) z2) : ApOK T (.verb (s1 ++ s2)) (z1 ++ z2) := by
  obtain ⟨rfl, k1⟩ := h1.ofVerb
  obtain ⟨rfl, k2⟩ := h2.ofVerb
  refine .verb _ fun c hc => ?_
  rcases List.mem_append.1 hc with hc | hc
  · exact k1 c hc
  · exact k2 c hc

theorem apsLen_snoc (l : List Ap) (a : Ap) : apsLen (l ++ [a]) = apsLen l + a.len := by simp [apsLen]

/-- the end of a call that adds an appender. -/
def AddedPost (w : World) (T : STime) (ca : Nat) (N M : Nat) (x : List UInt8) (e : Ending) (w' : World) : Prop :=
  e = .returned (.tuple #[]) ∧ ∃ lv pv pc xs aps, CAt w' T ca lv pv pc xs aps x ∧ xs.length ≤ N ∧ apsLen aps ≤ M ∧ Below ca w w'

section
variable {w : World} {T : STime} {ca : Nat} {lv pv v : Value} {pc : Bool} {xs : List Value} {aps : List Ap} {a : Ap} {x y : List UInt8}

theorem LaidPost.added {e : Ending} {w' : World} (h : LaidPost w T ca xs aps v a pc x e w') : AddedPost w T ca (xs.length + 1) (apsLen aps + a.len) x e w' := by
  obtain ⟨he, nv, h1, h2⟩ := h
  exact ⟨he, _, _, _, _, _, h1, by simp, by rw [apsLen_snoc]; exact Nat.le_refl _, h2⟩

theorem JoinedPost.added {e : Ending} {w' : World} {ys : List Value} {l : List Ap} {N M : Nat} (h : JoinedPost w T ca lv ys l a x e w') (hN : ys.length + 1 ≤ N) (hM : apsLen l + a.len ≤ M) : AddedPost w T ca N M x e w' := by
  obtain ⟨he, nv, h1, h2⟩ := h
  exact ⟨he, _, _, _, _, _, h1, by simpa using hN, by rw [apsLen_snoc]; exact hM, h2⟩

/-- (*combiningAppend).Append. -/
theorem add_any (h : CAt w T ca lv pv pc xs aps x) (hv : ApIs w v a) (hok : ApOK T a y) (hn : xs.length ≤ 1000) (hl : apsLen aps + a.len ≤ 1000) :
    Calls Tryz.prog 207 #[.pointer (some ⟨ca, 0, none⟩), v] w (AddedPost w T ca (xs.length + 1) (apsLen aps + a.len) (x ++ y)) := by
  have prev : pc = true → ∃ ys l b, xs = ys ++ [pv] ∧ aps = l ++ [b] ∧ ((∃ s q, b = .std s ∧ pv = .iface 245 (.pointer (some ⟨q, 0, none⟩))) ∨ ∃ s q, b = .verb s ∧ (∀ c ∈ s, okCh c = true) ∧ pv = .iface 248 (.pointer (some ⟨q, 0, none⟩))) := by
    intro hpc
    obtain ⟨ys, z, l, b, rfl, rfl, rfl, hb⟩ := h.last hpc
    refine ⟨ys, l, b, rfl, rfl, ?_⟩
    obtain ⟨x1, x2, _, _, hz, hz2⟩ := h.is.unsnoc
    cases b with
    | std s => obtain ⟨q, e, _⟩ := hz; exact .inl ⟨s, q, rfl, e⟩
    | verb s => obtain ⟨q, e, _⟩ := hz; exact .inr ⟨s, q, rfl, hz2.ofVerb.2, e⟩
    | fn k => exact hb.elim
    | wd k => exact hb.elim
    | wk k => exact hb.elim
    | other => exact hb.elim
  cases a with
  | other => cases hok
  | fn k =>
    obtain rfl : v = _ := hv
    cases pc with
    | false => exact (lay_fn_no k h hok hn).mono fun _ _ h => h.added
    | true =>
      obtain ⟨ys, l, b, _, _, ⟨s, q, _, rfl⟩ | ⟨s, q, _, _, rfl⟩⟩ := prev rfl
      · exact (lay_fn_std q k h hok hn).mono fun _ _ h => h.added
      · exact (lay_fn_verb q k h hok hn).mono fun _ _ h => h.added
  | wd k =>
    obtain rfl : v = _ := hv
    cases pc with
    | false => exact (lay_wd_no k h hok hn).mono fun _ _ h => h.added
    | true =>
      obtain ⟨ys, l, b, _, _, ⟨s, q, _, rfl⟩ | ⟨s, q, _, _, rfl⟩⟩ := prev rfl
      · exact (lay_wd_std q k h hok hn).mono fun _ _ h => h.added
      · exact (lay_wd_verb q k h hok hn).mono fun _ _ h => h.added
  | wk k =>
    obtain rfl : v = _ := hv
    cases pc with
    | false => exact (lay_wk_no k h hok hn).mono fun _ _ h => h.added
    | true =>
      obtain ⟨ys, l, b, _, _, ⟨s, q, _, rfl⟩ | ⟨s, q, _, _, rfl⟩⟩ := prev rfl
      · exact (lay_wk_std q k h hok hn).mono fun _ _ h => h.added
      · exact (lay_wk_verb q k h hok hn).mono fun _ _ h => h.added
  | std s2 =>
    obtain ⟨p, rfl, hp⟩ := hv
    have hl' : apsLen aps + s2.length ≤ 1000 := hl
    cases pc with
    | false => exact (lay_std_no p s2 hp h hok hn).mono fun _ _ h => h.added
    | true =>
      obtain ⟨ys, l, b, rfl, rfl, ⟨s, q, rfl, rfl⟩ | ⟨s, q, rfl, hs, rfl⟩⟩ := prev rfl
      · rw [apsLen_snoc] at hl'
        have e : (Ap.std s).len = s.length := rfl
        simp only [List.length_append, List.length_singleton] at hn ⊢
        exact (join_std_std q p s s2 h hp (by omega) (by omega) (by omega) (fun z hz => hz.joinStd hok)).mono fun _ _ h => h.added (by omega) (by rw [apsLen_snoc]; show apsLen l + (s ++ s2).length ≤ _ + s2.length; rw [List.length_append]; omega)
      · rw [apsLen_snoc] at hl'
        have e : (Ap.verb s).len = s.length := rfl
        simp only [List.length_append, List.length_singleton] at hn ⊢
        exact (join_verb_std q p s s2 h hp (by omega) (by omega) (by omega) (fun z hz => hz.toStd.joinStd hok)).mono fun _ _ h => h.added (by omega) (by rw [apsLen_snoc]; show apsLen l + (s ++ s2).length ≤ _ + s2.length; rw [List.length_append]; omega)
  | verb s2 =>
    obtain ⟨p, rfl, hp⟩ := hv
    have hl' : apsLen aps + s2.length ≤ 1000 := hl
    have hch := hok.ofVerb.2
    cases pc with
    | false => exact (lay_verb_no p s2 hp hch (by omega) h hok hn).mono fun _ _ h => h.added
    | true =>
      obtain ⟨ys, l, b, rfl, rfl, ⟨s, q, rfl, rfl⟩ | ⟨s, q, rfl, hs, rfl⟩⟩ := prev rfl
      · rw [apsLen_snoc] at hl'
        have e : (Ap.std s).len = s.length := rfl
        simp only [List.length_append, List.length_singleton] at hn ⊢
        exact (join_std_verb q p s s2 h hp (by omega) (by omega) hch (by omega) (fun z hz => hz.joinStd hok.toStd)).mono fun _ _ h => h.added (by omega) (by rw [apsLen_snoc]; show apsLen l + (s ++ s2).length ≤ _ + s2.length; rw [List.length_append]; omega)
      · rw [apsLen_snoc] at hl'
        have e : (Ap.verb s).len = s.length := rfl
        simp only [List.length_append, List.length_singleton] at hn ⊢
        exact (join_verb_verb q p s s2 h hp (by omega) (by omega) hch (by omega) (fun z hz => hz.joinVerb hok)).mono fun _ _ h => h.added (by omega) (by rw [apsLen_snoc]; show apsLen l + (s ++ s2).length ≤ _ + s2.length; rw [List.length_append]; omega)
end
end Go.Proofs.YtkcgngpoegglnaaGreatDoor
