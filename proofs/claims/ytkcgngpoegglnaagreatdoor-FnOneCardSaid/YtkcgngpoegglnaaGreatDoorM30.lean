/- The printing of a time by a layout: the loop; the contracts of the two functions. · The printing of a time by a layout: the contracts of the two functions. -/
import Derived.Deep.LoopGhost
import Derived.Test.YtkcgngpoegglnaaGreatDoorM29
import Derived.Test.YtkcgngpoegglnaaGreatDoorM14
import Derived.Test.YtkcgngpoegglnaaGreatDoorM11
/- The printing of a time by a layout: the loop; the contracts of the two functions. -/
section
namespace Go.Proofs.YtkcgngpoegglnaaGreatDoor
open Go Go.RowKit
set_option linter.unusedVariables false
set_option linter.unusedSimpArgs false

/-- a layout that is met: its atoms stand for themselves, the element of a year's day alone. -/
def okLay (ats : List Atom) : Prop := okAtoms ats ∧ no002 (ats.drop 1)

noncomputable def fh (i : Nat) : Code := fmtHead.getD i .skip
theorem fmtHead_eq : fmtHead = [fh 0, fh 1, fh 2] := by kernel_rfl
theorem fh2_eq : fh 2 = .block 1 (inBlockOf (fh 2)) := by kernel_rfl

theorem std0x_appended {w w' : World} {g g' : Nat} {out : List UInt8} {v' : Value} (hx : Std0x w) (h1 : g ≠ 1) (h : Appended w g out g' v' w') : Std0x w' := by
  obtain ⟨x0, x1, x2, x3, x4, x5⟩ := hx
  have hlt := World.block_lt_of_cell? w _ x0
  have k : ∀ i, w'.cell? ⟨1, i, none⟩ = w.cell? ⟨1, i, none⟩ := fun i => World.cell?_of_block (h.grown.block 1 hlt (by intro e; cases e; exact h1 rfl))
  exact ⟨by rw [k]; exact x0, by rw [k]; exact x1, by rw [k]; exact x2, by rw [k]; exact x3, by rw [k]; exact x4, by rw [k]; exact x5⟩

/-- the head of a round: is the layout at its end? -/
theorem fmt_head_more (t : Array Value) (v : Value) (c : UInt8) (l : List UInt8) (nm : ByteArray) (off A : Int) (dy yy ck : Bool) (cs : List Code) (w : World) (Q : Exit → Act → World → Prop) (ht : FmtT t v (c :: l) nm off A dy yy ck)
    (hK : ∀ t' : Array Value, FmtT t' v (c :: l) nm off A dy yy ck → wpL Tryz.prog cs Q ⟨t', []⟩ w) : wpL Tryz.prog (fh 0 :: fh 1 :: cs) Q ⟨t, []⟩ w := by
  obtain ⟨z, t1, t2, t7, t8, t9, t10, t11, t12, t13, t14, t15, t16, t17⟩ := ht
  have hbt := bs_toList (c :: l)
  refine wpL_cons ?_
  conv => arg 2; whnf
  repeat (first | ((with_reducible refine wp_cond_true ?_ ?_); (focus (go_simp; done))) | ((with_reducible refine wp_cond_false ?_ ?_); (focus (go_simp; done))) | go_guarded | go_step)
  refine wpL_cons ?_
  conv => arg 2; whnf
  repeat (first | ((with_reducible refine wp_cond_true ?_ ?_); (focus (go_simp; done))) | ((with_reducible refine wp_cond_false ?_ ?_); (focus (go_simp; done))) | go_guarded | go_step)
  refine hK _ ⟨?_, ?_, ?_, ?_, ?_, ?_, ?_, ?_, ?_, ?_, ?_, ?_, ?_, ?_⟩
  all_goals first | (simp [z]; done) | (intro h; simp [z, t1, t2, t7, t8, t9, t10, t11, t14, t15]; done) | (intro hc h; simp [z, t12 hc]; done) | (intro hc h; simp [z, t13 hc]; done) | (intro hc h; simp [z, t16 hc]; done) | (intro hc h; simp [z, t17 hc]; done)

theorem fmt_head_end (t : Array Value) (v : Value) (nm : ByteArray) (off A : Int) (dy yy ck : Bool) (cs : List Code) (w : World) (Q : Exit → Act → World → Prop) (ht : FmtT t v [] nm off A dy yy ck)
    (hK : ∀ t' : Array Value, t'.size = 393 → (∀ h : 1 < t'.size, t'[1]'h = v) → Q (.exit 0) ⟨t', []⟩ w) : wpL Tryz.prog (fh 0 :: fh 1 :: cs) Q ⟨t, []⟩ w := by
  obtain ⟨z, t1, t2, t7, t8, t9, t10, t11, t12, t13, t14, t15, t16, t17⟩ := ht
  have hbt := bs_toList []
  refine wpL_cons ?_
  conv => arg 2; whnf
  repeat (first | ((with_reducible refine wp_cond_true ?_ ?_); (focus (go_simp; done))) | ((with_reducible refine wp_cond_false ?_ ?_); (focus (go_simp; done))) | go_guarded | go_step)
  refine wpL_cons ?_
  conv => arg 2; whnf
  refine wp_cond_false ?_ ?_
  · go_simp
  refine wp_exit ?_
  exact hK _ (by simp [z]) (by intro h; simp [z, t1])

theorem el_pos (e : El) : 0 < e.bytes.length := by cases e <;> decide

/-- what holds at the head of a round. -/
def FmtI (w : World) (g : Nat) (total : List UInt8) (nm : ByteArray) (off A : Int) (n : Nat) (a : Act) (w' : World) : Prop :=
  ∃ t v g' out ats dy yy ck, a = ⟨t, []⟩ ∧ FmtT t v (lay ats) nm off A dy yy ck ∧ Appended w g out g' v w' ∧ out ++ layText A nm off ats = total ∧ okLay ats ∧ (lay ats).length = n

theorem fmt_loop (t : Array Value) (v : Value) (ats : List Atom) (nm : ByteArray) (off A : Int) (dy yy ck : Bool) (g : Nat) (out total : List UInt8) (w : World) (Q : Exit → Act → World → Prop)
    (hO : OkTime nm off A) (has : okLay ats) (hl : (lay ats).length ≤ 1000) (hx : Std0x w) (h1 : g ≠ 1) (hB : Buf w g v out) (ht : FmtT t v (lay ats) nm off A dy yy ck) (htot : out ++ layText A nm off ats = total) (hlen : total.length ≤ 500000)
    (hQ : ∀ (t' : Array Value) (g' : Nat) (v' : Value) (w' : World), Appended w g total g' v' w' → t'.size = 393 → (∀ h : 1 < t'.size, t'[1]'h = v') → Q (.exit 0) ⟨t', []⟩ w') :
    (Code.loop fmtBody).wp Tryz.prog Q ⟨t, []⟩ w := by
  refine wp_loop_ghost (fun n a w' => FmtI w g total nm off A n a w' ∧ n ≤ 1000) (lay ats).length ⟨⟨t, v, g, out, ats, dy, yy, ck, rfl, ht, Appended.refl hB, htot, has, rfl⟩, hl⟩ ?_
  rintro n a w' ⟨⟨t, v, g', out, ats, dy, yy, ck, rfl, ht, happ, htot, ⟨hok, hno⟩, rfl⟩, hn⟩
  have hx' := std0x_appended hx h1 happ
  have hol : out.length ≤ 500000 := by have := congrArg List.length htot; simp at this; omega
  refine wp_spine fmtBody _ _ _ ?_
  show wpL Tryz.prog fmtHead _ _ _
  rw [fmtHead_eq]
  rcases split_el ats hok with ⟨p, rfl, hp⟩ | ⟨p, e, q, rfl, hp⟩
  · cases p with
    | nil =>
      refine fmt_head_end t v nm off A dy yy ck _ w' _ ht fun t' z' h1' => ?_
      have e : out = total := by simpa [layText] using htot
      subst e
      exact hQ t' g' v w' happ z' h1'
    | cons c p =>
      rw [lay_chs] at ht hn
      rw [layText_chs] at htot
      refine fmt_head_more t v c p nm off A dy yy ck _ w' _ ht fun t' ht' => ?_
      refine wpL_cons ?_
      rw [fh2_eq]
      refine wp_block ?_
      refine wp_spine _ _ _ _ ?_
      show wpL Tryz.prog fmtPieces _ _ _
      rw [fmtPieces_eq]
      have hpre : OkPre (c :: p).length (c :: p) := by
        have := okPre_of (c :: p) [] hp (by intro a h; cases h)
        simpa [lay] using this
      refine piece_none t' v c p nm off A dy yy ck g' out _ w' _ hn hpre happ.buf hol ht' fun t2 g2 v2 w2 happ2 z2 h2 => ?_
      have ha := happ.trans happ2
      rw [htot] at ha
      exact hQ t2 g2 v2 w2 ha z2 h2
  · have hlay : lay (p.map Atom.ch ++ .el e :: q) = p ++ (e.bytes ++ lay q) := by rw [lay_append, lay_chs, lay_cons]; rfl
    have htx : layText A nm off (p.map Atom.ch ++ .el e :: q) = p ++ (e.text A nm off ++ layText A nm off q) := by rw [layText_append, layText_chs]; rfl
    have hq : okAtoms q := fun a h => hok a (by simp [h])
    have hnq : no002 q := by
      intro h
      apply hno
      cases p with
      | nil => simpa using h
      | cons c p => simp [h]
    have hpre := okPre_of p (.el e :: q) hp (fun a h => hok a (by simp at h; simp [h]))
    rw [lay_cons] at hpre
    have hpre' : OkPre p.length (p ++ (e.bytes ++ lay q)) := hpre
    rw [htx] at htot
    rw [hlay] at ht hn
    have hep := el_pos e
    have hc : ∃ c l, p ++ (e.bytes ++ lay q) = c :: l := by
      cases hx : p ++ (e.bytes ++ lay q) with
      | nil =>
        have := congrArg List.length hx
        rw [List.length_append, List.length_append, List.length_nil] at this
        omega
      | cons c l => exact ⟨c, l, rfl⟩
    obtain ⟨c, l, hcl⟩ := hc
    have hmore : ∀ (cs : List Code) (Q' : Exit → Act → World → Prop), (∀ t' : Array Value, FmtT t' v (p ++ (e.bytes ++ lay q)) nm off A dy yy ck → wpL Tryz.prog cs Q' ⟨t', []⟩ w') → wpL Tryz.prog (fh 0 :: fh 1 :: cs) Q' ⟨t, []⟩ w' := by
      intro cs Q' h
      rw [hcl] at ht h
      exact fmt_head_more t v c l nm off A dy yy ck cs w' Q' ht h
    refine hmore _ _ fun t' ht' => ?_
    refine wpL_cons ?_
    rw [fh2_eq]
    refine wp_block ?_
    refine wp_spine _ _ _ _ ?_
    show wpL Tryz.prog fmtPieces _ _ _
    refine fmt_round t' v (p ++ (e.bytes ++ lay q)) nm off A dy yy ck p.length e (lay q) g' out w' _ hO hn (by simp) hpre' (by rw [List.drop_left]) (follow_of e q hq hnq) hx' happ.buf hol ht' fun t2 g2 v2 w2 dy2 yy2 ck2 happ2 ht2 => ?_
    rw [List.take_left] at happ2
    show ∃ n', n' < (lay (p.map Atom.ch ++ .el e :: q)).length ∧ FmtI w g total nm off A n' ⟨t2, []⟩ w2 ∧ n' ≤ 1000
    refine ⟨(lay q).length, ?_, ⟨t2, v2, g2, _, q, dy2, yy2, ck2, rfl, ht2, happ.trans happ2, ?_, ⟨hq, fun h => hnq (List.mem_of_mem_drop h)⟩, rfl⟩, ?_⟩
    · rw [hlay]; simp; omega
    · rw [← htot]; simp
    · have := congrArg List.length hlay; simp at this hn; omega
end Go.Proofs.YtkcgngpoegglnaaGreatDoor
end
/- The printing of a time by a layout: the contracts of the two functions. -/
section
namespace Go.Proofs.YtkcgngpoegglnaaGreatDoor
open Go Go.RowKit
set_option linter.unusedVariables false
set_option linter.unusedSimpArgs false

theorem fmt_frame (x v : Value) (s : ByteArray) : ∃ t : Array Value, #[x, v, Value.string s] ++ Array.replicate (Tryz.f94.ntmps - (#[x, v, Value.string s] : Array Value).size) undef = t ∧ t.size = 393 ∧ (∀ h : 0 < t.size, t[0]'h = x) ∧ (∀ h : 1 < t.size, t[1]'h = v) ∧ (∀ h : 2 < t.size, t[2]'h = .string s) := by
  refine ⟨_, rfl, ?_, ?_, ?_, ?_⟩
  · simp [Tryz.ntmps94]
  · intro h; simp
  · intro h; simp
  · intro h; simp

theorem std0x_below {w w' : World} {B : Nat} (hx : Std0x w) (hb : Below B w w') (hB : 1 < B) : Std0x w' := by
  obtain ⟨x0, x1, x2, x3, x4, x5⟩ := hx
  have k : ∀ i, w'.cell? ⟨1, i, none⟩ = w.cell? ⟨1, i, none⟩ := fun i => hb.cell (p := ⟨1, i, none⟩) hB
  exact ⟨by rw [k]; exact x0, by rw [k]; exact x1, by rw [k]; exact x2, by rw [k]; exact x3, by rw [k]; exact x4, by rw [k]; exact x5⟩

theorem std0x_lt {w : World} (hx : Std0x w) : 1 < w.heap.size := World.block_lt_of_cell? w _ hx.1

set_option maxRecDepth 1000000 in
set_option maxHeartbeats 4000000 in
theorem appendFormat_any {wl ex : Int} {lc : Option Addr} {A : Int} {nm : ByteArray} {off : Int} {w : World} {C : Nat} (h : TimeAt w C wl ex lc A nm off) (hO : OkTime nm off A) (ats : List Atom) (has : okLay ats) (hn : (lay ats).length ≤ 1000)
    (hx : Std0x w) (v : Value) (g : Nat) (out : List UInt8) (h1 : g ≠ 1) (hB : Buf w g v out) (hlen : (out ++ layText A nm off ats).length ≤ 500000) :
    Calls Tryz.prog 94 #[.agg #[.int .u64 wl, .int .i64 ex, .pointer lc], v, .string (bs (lay ats))] w (AppPost w g (out ++ layText A nm off ats)) := by
  have hbd := h.bd
  have hlt := hB.lt
  refine calls_of_wp Tryz.func94 rfl ?_
  obtain ⟨t, ht, z, t0, t1, t2⟩ := fmt_frame (.agg #[.int .u64 wl, .int .i64 ex, .pointer lc]) v (bs (lay ats))
  rw [ht]
  clear ht
  have H := fun o => locabs_any (h.alloc o)
  repeat (first | (go_at_call 108; refine (H _).mono ?_; rintro e w1 ⟨rfl, hb⟩; dsimp only) | (go_at_call 84; refine (days_any _ _ hbd.1 hbd.2).mono ?_; rintro e w' ⟨rfl, rfl⟩; dsimp only) | go_guarded | go_step)
  have hbb := ((Below.refl w.heap.size w).alloc (Nat.le_refl _) (.cells #[.int .u64 wl, .int .i64 ex, .pointer lc] 48)).trans (hb.mono (by simp))
  refine fmt_loop _ v ats nm off A false false false g out _ _ _ hO has hn (std0x_below hx hbb (std0x_lt hx)) h1 (hB.below hbb hlt) ⟨?_, ?_, ?_, ?_, ?_, ?_, ?_, ?_, ?_, ?_, ?_, ?_, ?_, ?_⟩ rfl hlen ?_
  all_goals try first | (simp [z]; done) | (intro h; simp [z, t1, t2]; done) | (intro h; exact absurd h (by decide))
  intro t' g' v' w' happ z' t1'
  repeat (first | go_guarded | go_step)
  refine bodyPost_ret (results_tmp rfl _ _ _) rfl ?_
  refine ⟨g', v', ?_, happ.pre hbb⟩
  simp [Array.getD, z', t1']

set_option maxRecDepth 100000 in
theorem noZ (ats : List Atom) (h : okAtoms ats) : 90 ∉ lay ats := by
  intro hm
  unfold lay at hm
  rw [List.mem_flatMap] at hm
  obtain ⟨a, ha, hb⟩ := hm
  cases a with
  | el e => cases e <;> simp [Atom.bytes, El.bytes] at hb
  | ch c =>
    have := h _ ha
    simp only [Atom.bytes, List.mem_singleton] at hb
    subst hb
    exact absurd this (by decide)

set_option maxRecDepth 100000 in
theorem AppendFormat_any {wl ex : Int} {lc : Option Addr} {A : Int} {nm : ByteArray} {off : Int} {w : World} {C : Nat} (h : TimeAt w C wl ex lc A nm off) (hO : OkTime nm off A) (ats : List Atom) (has : okLay ats) (hn : (lay ats).length ≤ 1000)
    (hx : Std0x w) (v : Value) (g : Nat) (out : List UInt8) (h1 : g ≠ 1) (hB : Buf w g v out) (hlen : (out ++ layText A nm off ats).length ≤ 500000) (s : ByteArray) (hs : s = bs (lay ats)) :
    Calls Tryz.prog 64 #[.agg #[.int .u64 wl, .int .i64 ex, .pointer lc], v, .string s] w (AppPost w g (out ++ layText A nm off ats)) := by
  have hlt := hB.lt
  have hz := noZ ats has.1
  have e1 : ((bs (lay ats)).toList == [50, 48, 48, 54, 45, 48, 49, 45, 48, 50, 84, 49, 53, 58, 48, 52, 58, 48, 53, 90, 48, 55, 58, 48, 48]) = false := by
    rw [bs_toList, beq_eq_false_iff_ne]
    intro e
    rw [e] at hz
    exact hz (by decide)
  have e2 : ((bs (lay ats)).toList == [50, 48, 48, 54, 45, 48, 49, 45, 48, 50, 84, 49, 53, 58, 48, 52, 58, 48, 53, 46, 57, 57, 57, 57, 57, 57, 57, 57, 57, 90, 48, 55, 58, 48, 48]) = false := by
    rw [bs_toList, beq_eq_false_iff_ne]
    intro e
    rw [e] at hz
    exact hz (by decide)
  have H := fun o => appendFormat_any (h.alloc o) hO ats has hn (std0x_below hx ((Below.refl _ _).alloc (Nat.le_refl _) o) (std0x_lt hx)) v g out h1 (hB.alloc o) hlen
  subst hs
  generalize bs (lay ats) = s at *
  go_enter Tryz.func64, Tryz.ntmps64
  go_wp2_with (first | (go_at_call 94; refine (H _).mono ?_; rintro e w1 ⟨g', v', rfl, happ⟩))
  go_ret
  exact ⟨g', v', rfl, happ.pre ((Below.refl _ _).alloc (Nat.le_refl _) _)⟩
end Go.Proofs.YtkcgngpoegglnaaGreatDoor
end
