/- The first package: joining appenders. · The second package: the state of a formatting run; the law of an append inside a statement whose order is open. -/
import Derived.Deep.RegionLaw
import Derived.Test.YtkcgngpoegglnaaGreatDoorM14
import Derived.Test.YtkcgngpoegglnaaGreatDoorM16
import Derived.Test.YtkcgngpoegglnaaGreatDoorM10
import Derived.Test.YtkcgngpoegglnaaGreatDoorM09
import Derived.Test.YtkcgngpoegglnaaGreatDoorM06
/- The first package: joining appenders. -/
section
namespace Go.Proofs.YtkcgngpoegglnaaGreatDoor
open Go Go.RowKit
set_option linter.unusedVariables false
set_option linter.unusedSimpArgs false

theorem str_std (s : ByteArray) (w : World) : Calls Tryz.prog 228 #[.agg #[.string s]] w fun e w' => e = .returned (.string s) ∧ Below w.heap.size w w' := by
  go_enter Tryz.func228, Tryz.ntmps228
  go_wp2
  go_ret
  exact ⟨rfl, (Below.refl _ _).alloc (Nat.le_refl _) _⟩

theorem str_verb (s : ByteArray) (w : World) : Calls Tryz.prog 232 #[.agg #[.string s]] w fun e w' => e = .returned (.string s) ∧ Below w.heap.size w w' := by
  go_enter Tryz.func232, Tryz.ntmps232
  go_wp2
  go_ret
  exact ⟨rfl, (Below.refl _ _).alloc (Nat.le_refl _) _⟩

theorem can_std (s : ByteArray) (w : World) : Calls Tryz.prog 226 #[.agg #[.string s]] w fun e w' => e = .returned (.bool true) ∧ Below w.heap.size w w' := by
  go_enter Tryz.func226, Tryz.ntmps226
  go_wp2
  go_ret
  exact ⟨rfl, (Below.refl _ _).alloc (Nat.le_refl _) _⟩

theorem can_verb (l : List UInt8) (w : World) (hl : ∀ c ∈ l, okCh c = true) (hz : l.length ≤ 1000) : Calls Tryz.prog 230 #[.agg #[.string (bs l)]] w fun e w' => e = .returned (.bool true) ∧ Below w.heap.size w w' := by
  have H := fun w => can_any l w hl hz
  generalize bs l = s at *
  go_enter Tryz.func230, Tryz.ntmps230
  go_wp2_with (first | (go_at_call 233; refine (H _).mono ?_; rintro e w' ⟨rfl, hb⟩))
  go_ret
  exact ⟨rfl, ((Below.refl _ _).alloc (Nat.le_refl _) _).trans (hb.mono (by simp))⟩

theorem below_drewC (w : World) : Below w.heap.size w w.drew := ⟨rfl, rfl, rfl, Nat.le_refl _, fun _ _ => rfl⟩

theorem bs_append (a b : List UInt8) : bs a ++ bs b = bs (a ++ b) := by
  rw [bs_of (bs a ++ bs b)]
  congr 1

theorem ta_266_245 (v : Value) (w : World) : (Instr.typeAssert (.iface 245 v) 266 245 true).run Tryz.prog w = .ok (.tuple #[v, .bool true]) w := by kernel_rfl
theorem ta_266_248 (v : Value) (w : World) : (Instr.typeAssert (.iface 248 v) 266 245 true).run Tryz.prog w = .ok (.tuple #[.pointer none, .bool false]) w := by kernel_rfl

set_option maxRecDepth 100000 in
theorem comb_std_std (a b : List UInt8) (p : Nat) (w : World) (hp : w.heap[p]? = some (.cells #[.string (bs b)] 247 (0, 0))) (h1 : a.length ≤ 1000) (h2 : b.length ≤ 1000) :
    Calls Tryz.prog 227 #[.agg #[.string (bs a)], .iface 245 (.pointer (some ⟨p, 0, none⟩))] w (ApPost w (.std (a ++ b))) := by
  have hc := cell_of_one hp
  have hlt := lt_of_block hp
  have hz1 : (bs a).size ≤ 1000 := by rw [bs_size]; exact h1
  have hz2 : (bs b).size ≤ 1000 := by rw [bs_size]; exact h2
  have hsum : ¬ (9223372036854775807 < (bs a).size + (bs b).size) := by omega
  have hap := bs_append a b
  have hm0 := m_str_std p (bs b) (w.alloc (.cells #[.string (bs a)] 247)).drew (by go_simp)
  skip
  go_enter Tryz.func227, Tryz.ntmps227
  go_wp2
  go_region_law (first | (go_simp; go_at_call 228; refine (str_std _ _).mono ?_; rintro e w1 ⟨rfl, hb1⟩; obtain ⟨hc1, hf1⟩ := bcell hb1; dsimp only) | (go_simp; go_at_call 177; refine (stdlib_any (a ++ b) w1).mono ?_; rintro e w2 ⟨v2, rfl, ha, hb2⟩; have HA := Lib.hid ha; clear ha; dsimp only))
  all_goals
    go_wp2
    go_ret
    exact ⟨_, rfl, HA.out, ((((Below.refl _ _).alloc (Nat.le_refl _) _).trans ((below_drewC _).mono (by simp))).trans (hb1.mono (by simp))).trans (hb2.mono (by have := hb1.size; simp at this; omega))⟩

set_option maxRecDepth 100000 in
theorem comb_std_verb (a b : List UInt8) (p : Nat) (w : World) (hp : w.heap[p]? = some (.cells #[.string (bs b)] 249 (0, 0))) (h1 : a.length ≤ 1000) (h2 : b.length ≤ 1000) :
    Calls Tryz.prog 227 #[.agg #[.string (bs a)], .iface 248 (.pointer (some ⟨p, 0, none⟩))] w (ApPost w (.std (a ++ b))) := by
  have hc := cell_of_one hp
  have hlt := lt_of_block hp
  have hz1 : (bs a).size ≤ 1000 := by rw [bs_size]; exact h1
  have hz2 : (bs b).size ≤ 1000 := by rw [bs_size]; exact h2
  have hsum : ¬ (9223372036854775807 < (bs a).size + (bs b).size) := by omega
  have hap := bs_append a b
  have hm0 := m_str_verb p (bs b) (w.alloc (.cells #[.string (bs a)] 247)).drew (by go_simp)
  skip
  go_enter Tryz.func227, Tryz.ntmps227
  go_wp2
  go_region_law (first | (go_simp; go_at_call 232; refine (str_verb _ _).mono ?_; rintro e w1 ⟨rfl, hb1⟩; obtain ⟨hc1, hf1⟩ := bcell hb1; dsimp only) | (go_simp; go_at_call 177; refine (stdlib_any (a ++ b) w1).mono ?_; rintro e w2 ⟨v2, rfl, ha, hb2⟩; have HA := Lib.hid ha; clear ha; dsimp only))
  all_goals
    go_wp2
    go_ret
    exact ⟨_, rfl, HA.out, ((((Below.refl _ _).alloc (Nat.le_refl _) _).trans ((below_drewC _).mono (by simp))).trans (hb1.mono (by simp))).trans (hb2.mono (by have := hb1.size; simp at this; omega))⟩

set_option maxRecDepth 100000 in
theorem comb_verb_std (a b : List UInt8) (p : Nat) (w : World) (hp : w.heap[p]? = some (.cells #[.string (bs b)] 247 (0, 0))) (h1 : a.length ≤ 1000) (h2 : b.length ≤ 1000) :
    Calls Tryz.prog 231 #[.agg #[.string (bs a)], .iface 245 (.pointer (some ⟨p, 0, none⟩))] w (ApPost w (.std (a ++ b))) := by
  have hc := cell_of_one hp
  have hlt := lt_of_block hp
  have hz1 : (bs a).size ≤ 1000 := by rw [bs_size]; exact h1
  have hz2 : (bs b).size ≤ 1000 := by rw [bs_size]; exact h2
  have hsum : ¬ (9223372036854775807 < (bs a).size + (bs b).size) := by omega
  have hap := bs_append a b
  have hm0 := m_str_std p (bs b) (w.alloc (.cells #[.string (bs a)] 249)).drew (by go_simp)
  have hta := ta_266_245 (.pointer (some ⟨p, 0, none⟩))
  go_enter Tryz.func231, Tryz.ntmps231
  go_wp2
  go_region_law (first | (go_simp; go_at_call 228; refine (str_std _ _).mono ?_; rintro e w1 ⟨rfl, hb1⟩; obtain ⟨hc1, hf1⟩ := bcell hb1; dsimp only) | (go_simp; go_at_call 177; refine (stdlib_any (a ++ b) w1).mono ?_; rintro e w2 ⟨v2, rfl, ha, hb2⟩; have HA := Lib.hid ha; clear ha; dsimp only))
  all_goals
    go_wp2
    go_ret
    exact ⟨_, rfl, HA.out, ((((Below.refl _ _).alloc (Nat.le_refl _) _).trans ((below_drewC _).mono (by simp))).trans (hb1.mono (by simp))).trans (hb2.mono (by have := hb1.size; simp at this; omega))⟩

set_option maxRecDepth 100000 in
theorem comb_verb_verb (a b : List UInt8) (p : Nat) (w : World) (hp : w.heap[p]? = some (.cells #[.string (bs b)] 249 (0, 0))) (h1 : a.length ≤ 1000) (h2 : b.length ≤ 1000) :
    Calls Tryz.prog 231 #[.agg #[.string (bs a)], .iface 248 (.pointer (some ⟨p, 0, none⟩))] w (ApPost w (.verb (a ++ b))) := by
  have hc := cell_of_one hp
  have hlt := lt_of_block hp
  have hz1 : (bs a).size ≤ 1000 := by rw [bs_size]; exact h1
  have hz2 : (bs b).size ≤ 1000 := by rw [bs_size]; exact h2
  have hsum : ¬ (9223372036854775807 < (bs a).size + (bs b).size) := by omega
  have hap := bs_append a b
  have hm0 := m_str_verb p (bs b) (w.alloc (.cells #[.string (bs a)] 249)).drew (by go_simp)
  have hta := ta_266_248 (.pointer (some ⟨p, 0, none⟩))
  go_enter Tryz.func231, Tryz.ntmps231
  go_wp2
  go_region_law (first | (go_simp; go_at_call 232; refine (str_verb _ _).mono ?_; rintro e w1 ⟨rfl, hb1⟩; obtain ⟨hc1, hf1⟩ := bcell hb1; dsimp only) | (go_simp; go_at_call 182; refine (verbatim_any (a ++ b) w1).mono ?_; rintro e w2 ⟨v2, rfl, ha, hb2⟩; have HA := Lib.hid ha; clear ha; dsimp only))
  all_goals
    go_wp2
    go_ret
    exact ⟨_, rfl, HA.out, ((((Below.refl _ _).alloc (Nat.le_refl _) _).trans ((below_drewC _).mono (by simp))).trans (hb1.mono (by simp))).trans (hb2.mono (by have := hb1.size; simp at this; omega))⟩
end Go.Proofs.YtkcgngpoegglnaaGreatDoor
end
/- The second package: the state of a formatting run; the law of an append inside a statement whose order is open. -/
section
namespace Go.Proofs.YtkcgngpoegglnaaGreatDoor
open Go Go.RowKit
set_option linter.unusedVariables false
set_option linter.unusedSimpArgs false

/-- the variables of a formatting run: what has been written, and the time. -/
structure St (w : World) (b bt g : Nat) (v : Value) (out : List UInt8) (C : Nat) (wl ex : Int) (lc : Option Addr) (A : Int) (nm : ByteArray) (off : Int) : Prop where
  dst : DstAt w b g v out
  tb : w.heap[bt]? = some (.cells #[.int .u64 wl, .int .i64 ex, .pointer lc] 48 (0, 0))
  tm : TimeAt w C wl ex lc A nm off
  x : Std0x w
  c1 : 2 ≤ C
  cg : C ≤ g
  cb : C ≤ b

section
variable {w w' : World} {b bt g g' C : Nat} {v v' : Value} {out out' : List UInt8} {wl ex : Int} {lc : Option Addr} {A : Int} {nm : ByteArray} {off : Int}

theorem St.below (h : St w b bt g v out C wl ex lc A nm off) (hb : Below w.heap.size w w') : St w' b bt g v out C wl ex lc A nm off := by
  obtain ⟨x0, x1, x2, x3, x4, x5⟩ := h.x
  exact ⟨h.dst.below hb, (hb.block bt (lt_of_block h.tb)).trans h.tb, h.tm.below hb h.tm.b, ⟨cell_keeps hb x0, cell_keeps hb x1, cell_keeps hb x2, cell_keeps hb x3, cell_keeps hb x4, cell_keeps hb x5⟩, h.c1, h.cg, h.cb⟩

theorem St.bt_ne_b (h : St w b bt g v out C wl ex lc A nm off) : bt ≠ b := by
  rintro rfl
  have e := h.tb.symm.trans h.dst.at_
  simp at e

theorem St.bt_ne_g (h : St w b bt g v out C wl ex lc A nm off) : bt ≠ g := by
  rintro rfl
  obtain ⟨rest, T, hv, hg, hm⟩ := h.dst.buf
  have e := h.tb.symm.trans hg
  simp only [Option.some.injEq, Obj.cells.injEq] at e
  have e1 : [Value.int .u64 wl, Value.int .i64 ex, Value.pointer lc] = cellsOfBytes (out ++ rest) := by
    have := congrArg Array.toList e.1
    simpa using this
  cases hx : out ++ rest with
  | nil => rw [hx] at e1; simp [cellsOfBytes] at e1
  | cons c l => rw [hx] at e1; simp [cellsOfBytes, bv] at e1

theorem St.wrote (h : St w b bt g v out C wl ex lc A nm off) (hW : Wrote w b g out' g' v' w') : St w' b bt g' v' out' C wl ex lc A nm off := by
  have hb := hW.below h.cg h.cb h.tm.b
  obtain ⟨x0, x1, x2, x3, x4, x5⟩ := h.x
  have hc1 := h.c1
  have k : ∀ i, w'.cell? ⟨1, i, none⟩ = w.cell? ⟨1, i, none⟩ := fun i => hb.cell (p := ⟨1, i, none⟩) (by show 1 < C; omega)
  refine ⟨hW.dst, (hW.block bt (lt_of_block h.tb) h.bt_ne_g h.bt_ne_b).trans h.tb, h.tm.below hb (Nat.le_refl _), ⟨by rw [k]; exact x0, by rw [k]; exact x1, by rw [k]; exact x2, by rw [k]; exact x3, by rw [k]; exact x4, by rw [k]; exact x5⟩, h.c1, ?_, h.cb⟩
  rcases hW.at_ with e | e
  · rw [e]; exact h.cg
  · exact Nat.le_trans h.tm.b e

theorem St.cells (h : St w b bt g v out C wl ex lc A nm off) : w.cell? ⟨b, 0, none⟩ = some v ∧ w.frozen? ⟨b, 0, none⟩ = false ∧ w.cell? ⟨bt, 0, none⟩ = some (.int .u64 wl) ∧ w.cell? ⟨bt, 1, none⟩ = some (.int .i64 ex) ∧ w.cell? ⟨bt, 2, none⟩ = some (.pointer lc) := by
  refine ⟨cell_of_one h.dst.at_, free_of_one h.dst.at_, ?_, ?_, ?_⟩ <;> simp [World.cell?, h.tb]

theorem St.drew (h : St w b bt g v out C wl ex lc A nm off) : St w.drew b bt g v out C wl ex lc A nm off := by
  have t := h.tm
  refine ⟨⟨h.dst.at_, h.dst.buf⟩, h.tb, ⟨t.w0, t.w1, t.e0, t.e1, t.o0, t.o1, t.a, ?_, t.b, t.d, t.dm⟩, h.x, h.c1, h.cg, h.cb⟩
  rcases t.at_ with h | ⟨L, Z, e, p⟩
  · exact .inl h
  · exact .inr ⟨L, Z, e, ⟨p.c0, p.c1, p.c2, p.c5, p.c6, p.c7, p.z0, p.z1, p.z2, p.l, p.z, p.b⟩⟩
end

/-- the append, as one step of a statement whose order is open. -/
theorem step_append_buf {ops : Array Oper} {o : Oper} {a : Act} {w : World} {K : Act → World → Prop} {Q : Exit → Act → World → Prop} {E : Prop} (hg : o.guard = none) (s x : Operand) (tx : TypeId)
    (ho : o.op = .call { callee := .builtin .append, args := #[s, x], argTypes := #[34, tx] }) {g : Nat} {v y : Value} {bs news : List UInt8} (hs : a.eval s = v) (hy : a.eval x = y) (h : Buf w g v bs) (hx : BytesIn w tx y news) (hl : bs.length + news.length ≤ 1000000)
    (hK : ∀ g' n cap w', Appended w g (bs ++ news) g' (.slice (some ⟨g', 0, none⟩) n cap) w' → K (a.put o.dst (.slice (some ⟨g', 0, none⟩) n cap)) w') : if Region.wanted o (yielded ops a.tmps) = true then Oper.wp Tryz.prog o a w K Q else E := by
  have hw : Region.wanted o (yielded ops a.tmps) = true := by simp [Region.wanted, hg]
  rw [if_pos hw]
  obtain ⟨g', v', w', hr, happ⟩ := run_append_buf o.type h hx hl
  obtain ⟨n, cap, rfl⟩ := happ.buf.shape
  unfold Oper.wp execOp
  simp only [ho, resolve, invoke, builtin, Sem.run_bind, Sem.run_pure, Result.andThen_ok, List.map_toArray, List.map_cons, List.map_nil, hs, hy, hr]
  exact hK _ _ _ _ happ

theorem below_drew (w : World) : Below w.heap.size w w.drew := ⟨rfl, rfl, rfl, Nat.le_refl _, fun _ _ => rfl⟩

theorem bytesIn_bs (w : World) (l : List UInt8) : BytesIn w 9 (.string (bs l)) l := by
  have := bytesIn_string w (bs l)
  rw [bs_data] at this
  exact this

theorem dayName_len9 (m : Int) (h0 : 0 ≤ m) (h1 : m ≤ 6) : 3 ≤ (dayName m).length ∧ (dayName m).length ≤ 9 := by
  have hm : m = 0 ∨ m = 1 ∨ m = 2 ∨ m = 3 ∨ m = 4 ∨ m = 5 ∨ m = 6 := by omega
  rcases hm with rfl | rfl | rfl | rfl | rfl | rfl | rfl <;> decide

theorem monthName_len9 (m : Int) (h0 : 1 ≤ m) (h1 : m ≤ 12) : 3 ≤ (monthName m).length ∧ (monthName m).length ≤ 9 := by
  have hm : m = 1 ∨ m = 2 ∨ m = 3 ∨ m = 4 ∨ m = 5 ∨ m = 6 ∨ m = 7 ∨ m = 8 ∨ m = 9 ∨ m = 10 ∨ m = 11 ∨ m = 12 := by omega
  rcases hm with rfl | rfl | rfl | rfl | rfl | rfl | rfl | rfl | rfl | rfl | rfl | rfl <;> decide
theorem monthF_bd9 (D : Int) : 1 ≤ monthF D ∧ monthF D ≤ 12 := by
  have a := ayd_bd D
  unfold monthF amY jfY
  split <;> omega
theorem dayF_bd9 (D : Int) : 1 ≤ dayF D ∧ dayF D ≤ 31 := by
  have a := ayd_bd D
  unfold dayF mdY
  generalize aydF D = y at *
  have h2 : (2141 * y + 197913) % 65536 < 65536 ∧ 0 ≤ (2141 * y + 197913) % 65536 := by omega
  omega
end Go.Proofs.YtkcgngpoegglnaaGreatDoor
end
