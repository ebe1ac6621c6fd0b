/- Laws of a row of bytes that a call owns: appending to it, cutting it, storing into it. -/
import Derived.Lib.AppendStr
import Derived.Test.YtkcgngpoegglnaaGreatDoorM03
namespace Go.Proofs.YtkcgngpoegglnaaGreatDoor
open Go Go.RowKit
set_option linter.unusedVariables false

/-- a byte as a cell. -/
def bv (b : UInt8) : Value := .int .u8 b.toNat
def cellsOfBytes (l : List UInt8) : List Value := l.map bv

theorem cellsOfBytes_length (l : List UInt8) : (cellsOfBytes l).length = l.length := by simp [cellsOfBytes]
theorem cellsOfBytes_append (a b : List UInt8) : cellsOfBytes (a ++ b) = cellsOfBytes a ++ cellsOfBytes b := by simp [cellsOfBytes]
theorem cellsOfBytes_oneCell (l : List UInt8) : ∀ u ∈ cellsOfBytes l, u.oneCell' = true := by
  intro u hu
  simp only [cellsOfBytes, List.mem_map] at hu
  obtain ⟨b, _, rfl⟩ := hu
  rfl

/-- block g is a row of bytes; v is a slice from its head on that reads bs. -/
def Buf (w : World) (g : Nat) (v : Value) (bs : List UInt8) : Prop :=
  ∃ (rest : List UInt8) (T : TypeId), v = .slice (some ⟨g, 0, none⟩) bs.length (bs ++ rest).length ∧ w.heap[g]? = some (.cells (cellsOfBytes (bs ++ rest)).toArray T (0, 0)) ∧ (bs ++ rest).length ≤ maxLen

theorem Buf.lt {w : World} {g : Nat} {v : Value} {bs : List UInt8} (h : Buf w g v bs) : g < w.heap.size := by
  obtain ⟨rest, T, _, hg, _⟩ := h
  exact (Array.getElem?_eq_some_iff.1 hg).1

theorem Buf.of_heap {w w' : World} {g : Nat} {v : Value} {bs : List UInt8} (h : Buf w g v bs) (hw : w'.heap[g]? = w.heap[g]?) : Buf w' g v bs := by
  obtain ⟨rest, T, hv, hg, hm⟩ := h
  exact ⟨rest, T, hv, hw.trans hg, hm⟩

theorem Buf.alloc {w : World} {g : Nat} {v : Value} {bs : List UInt8} (h : Buf w g v bs) (o : Obj) : Buf (w.alloc o) g v bs := h.of_heap (Below.heap_alloc w o g h.lt)
theorem Buf.drew {w : World} {g : Nat} {v : Value} {bs : List UInt8} (h : Buf w g v bs) : Buf w.drew g v bs := h
theorem Buf.setCell {w : World} {g : Nat} {v : Value} {bs : List UInt8} (h : Buf w g v bs) (a : Addr) (u : Value) (hne : a.block ≠ g) : Buf (w.setCell a u) g v bs := h.of_heap (Below.heap_setCell w a u g (fun e => hne e.symm))
theorem Buf.below {w w' : World} {g : Nat} {v : Value} {bs : List UInt8} {B : Nat} (h : Buf w g v bs) (hb : Below B w w') (hB : g < B) : Buf w' g v bs := h.of_heap (hb.block g hB)

/-- x is a value whose bytes are these, in this world and whatever is drawn. -/
structure BytesIn (w : World) (tx : TypeId) (x : Value) (news : List UInt8) : Prop where
  ty : Tryz.prog.underlying tx = some .string ∨ Tryz.prog.underlying tx = some (.slice 5)
  len : ∀ w', (Builtin.lenOf x).run Tryz.prog w' = .ok news.length w'
  cells : ∀ w', w'.heap = w.heap → (Builtin.firstCells 1 news.length x).run Tryz.prog w' = .ok (cellsOfBytes news).toArray w'

theorem bytesIn_string (w : World) (s : ByteArray) : BytesIn w 9 (.string s) s.data.toList := by
  refine ⟨.inl Tryz.underlying9, fun w' => ?_, fun w' _ => ?_⟩
  · simp [Builtin.lenOf]
  · have := Lib.run_firstCells_string (P := Tryz.prog) w' 1 s
    have e : s.data.toList.length = s.size := by simp
    rw [e]
    exact this

theorem bytesIn_slice (w : World) (a : Addr) (n c : Nat) (news : List UInt8) (hn : n = news.length) (h : ∀ j b, news[j]? = some b → w.cell? (a.add j) = some (bv b)) : BytesIn w 34 (.slice (some a) n c) news := by
  subst hn
  refine ⟨.inr Tryz.underlying34, fun w' => by simp [Builtin.lenOf], fun w' hw => ?_⟩
  refine run_firstCells_some (P := Tryz.prog) w' 1 news.length a news.length c (cellsOfBytes news) (by simp [cellsOfBytes]) fun j v hv => ?_
  simp only [cellsOfBytes, List.getElem?_map] at hv
  cases hb : news[j]? with
  | none => rw [hb] at hv; cases hv
  | some b =>
    rw [hb] at hv
    simp only [Option.map_some, Option.some.injEq] at hv
    subst hv
    have := h j b hb
    unfold World.cell? at this ⊢
    rw [hw]; exact this

theorem info5 : (Tryz.prog.info? 5).map (fun i => (i.zero, i.size, i.bytes)) = some (some (.int .u8 0), 1, 1) := by kernel_rfl

/-- what an append leaves. -/
structure Appended (w : World) (g : Nat) (bs : List UInt8) (g' : Nat) (v' : Value) (w' : World) : Prop where
  buf : Buf w' g' v' bs
  grown : w.grownBy w' (some g)
  at_ : g' = g ∨ w.heap.size ≤ g'

theorem take_bytes (bs rest : List UInt8) : (cellsOfBytes (bs ++ rest)).take bs.length = cellsOfBytes bs := by
  rw [cellsOfBytes_append, List.take_left' (cellsOfBytes_length bs)]

theorem zeroCells_bytes (n : Nat) : Builtin.zeroCells (Value.int .u8 0).cells n = (cellsOfBytes (List.replicate n 0)).toArray := by
  have hz : (Value.int .u8 0).cells = #[.int .u8 0] := rfl
  rw [hz]
  apply Array.ext
  · simp [Builtin.zeroCells, cellsOfBytes]
  · intro i h1 h2
    simp [Builtin.zeroCells, cellsOfBytes, bv]
    rw [Nat.mod_one]
    rfl

theorem heap_new_drew (w : World) (o : Obj) : (w.drew.alloc o).heap[w.heap.size]? = some o := by
  show (w.heap.push o)[w.heap.size]? = some o
  simp

theorem run_append_buf {w : World} {g : Nat} {v : Value} {bs news : List UInt8} {tx : TypeId} {x : Value} (ty : TypeId) (h : Buf w g v bs) (hx : BytesIn w tx x news) (hl : bs.length + news.length ≤ 1000000) :
    ∃ g' v' w', (Builtin.append_ #[34, tx] ty #[v, x]).run Tryz.prog w = .ok v' w' ∧ Appended w g (bs ++ news) g' v' w' := by
  obtain ⟨i, hi, hz, hs, hb⟩ := info_parts info5
  obtain ⟨rest, T, rfl, hg, hm⟩ := h
  have hlen := hx.len
  by_cases hroom : bs.length + news.length ≤ (bs ++ rest).length
  · have hf := hx.cells w rfl
    have hr : news.length ≤ rest.length := by simp only [List.length_append] at hroom; omega
    have hst := run_storeCells_at Tryz.prog g bs.length T (cellsOfBytes news) 0 (cellsOfBytes (bs ++ rest)).toArray w hg (by simp [cellsOfBytes]; omega) (cellsOfBytes_oneCell news)
    simp only [Nat.add_zero] at hst
    have erow : ((cellsOfBytes (bs ++ rest)).toArray.toList.take bs.length ++ cellsOfBytes news ++ (cellsOfBytes (bs ++ rest)).toArray.toList.drop (bs.length + (cellsOfBytes news).length)) = cellsOfBytes (bs ++ news ++ rest.drop news.length) := by
      simp only [cellsOfBytes_length, take_bytes]
      rw [cellsOfBytes_append bs rest, List.drop_append, List.drop_eq_nil_of_le (by simp [cellsOfBytes]), cellsOfBytes_length, Nat.add_sub_cancel_left, cellsOfBytes_append, cellsOfBytes_append]
      simp [cellsOfBytes, List.map_drop]
    rw [erow] at hst
    have hc : (bs ++ news ++ rest.drop news.length).length = (bs ++ rest).length := by simp; omega
    refine ⟨g, .slice (some ⟨g, 0, none⟩) (bs.length + news.length) (bs ++ rest).length, _, ?_, ⟨⟨rest.drop news.length, T, ?_, setRow_heap w g _ _ T _ hg, by rw [hc]; exact hm⟩, ⟨rfl, rfl, rfl, by simp, fun k _ hk => setRow_other w g k _ (fun e => hk (by simp [e]))⟩, .inl rfl⟩⟩
    · simp only [List.length_append]
      rcases hx.ty with hd | hd <;> simp [Builtin.append_, run_underlying Tryz.underlying34, run_underlying hd, sizeOf, typeInfo, hi, hs, hlen, hr, hf, Addr.add_lit, hst]
    · rw [hc]; simp
  · have hf := hx.cells w.drew rfl
    have hfo := run_firstCells_some (P := Tryz.prog) w.drew 1 bs.length ⟨g, 0, none⟩ bs.length (bs ++ rest).length (cellsOfBytes bs) (by simp [cellsOfBytes]) (by
      intro j u hu
      have hadd : (⟨g, 0, none⟩ : Addr).add j = ⟨g, j, none⟩ := by unfold Addr.add; split <;> simp_all
      have hd' : w.drew.heap[g]? = some (.cells (cellsOfBytes (bs ++ rest)).toArray T (0, 0)) := hg
      rw [hadd, cell_of_row w.drew g j _ T (0, 0) hd']
      rw [cellsOfBytes_append]
      have hj : j < (cellsOfBytes bs).length := (List.getElem?_eq_some_iff.1 hu).1
      simp only [List.getElem?_toArray, List.getElem?_append_left hj]
      exact hu)
    have hn : ¬ (bs.length + news.length ≤ bs.length + rest.length) := by simpa using hroom
    have hn2 : ¬ (news.length ≤ rest.length) := by omega
    have h63' : ¬ (9223372036854775807 < ((bs.length : Int) + (news.length : Int))) := by omega
    have hcap : Builtin.nextslicecap (bs.length + news.length) (bs.length + rest.length) * i.bytes ≤ 281474976710656 := growslice_fits (by omega) (by rw [hb]; omega)
    rw [hb, Nat.mul_one] at hcap
    have h48' : ¬ (281474976710656 < Builtin.nextslicecap (bs.length + news.length) (bs.length + rest.length)) := by omega
    refine ⟨w.heap.size, .slice (some ⟨w.heap.size, 0, none⟩) (bs.length + news.length) (grownCap w (bs.length + news.length) (bs.length + rest.length) 5), w.drew.alloc (.cells (cellsOfBytes ((bs ++ news) ++ List.replicate (grownCap w (bs.length + news.length) (bs.length + rest.length) 5 - (bs.length + news.length)) 0)).toArray 5), ?_, ⟨⟨List.replicate (grownCap w (bs.length + news.length) (bs.length + rest.length) 5 - (bs.length + news.length)) 0, 5, ?_, heap_new_drew w _, ?_⟩, ⟨rfl, rfl, rfl, by simp, fun k hk _ => Below.heap_alloc w.drew _ k hk⟩, .inr (Nat.le_refl _)⟩⟩
    · simp only [List.length_append]
      have e1 : (cellsOfBytes (bs ++ news ++ List.replicate (grownCap w (bs.length + news.length) (bs.length + rest.length) 5 - (bs.length + news.length)) 0)).toArray = (cellsOfBytes bs).toArray ++ ((cellsOfBytes news).toArray ++ Builtin.zeroCells (Value.int .u8 0).cells (grownCap w (bs.length + news.length) (bs.length + rest.length) 5 - (bs.length + news.length))) := by
        rw [zeroCells_bytes]; simp [cellsOfBytes]
      rw [e1]
      unfold grownCap
      simp only [List.length_append] at hfo
      rcases hx.ty with hd | hd <;> simp [Builtin.append_, run_underlying Tryz.underlying34, run_underlying hd, sizeOf, typeInfo, zeroValue, hi, hs, hb, hz, hlen, hn2, h63', h48', Question.forced, hf, hfo, newRow]
    · have := grownCap_ge w (bs.length + news.length) (bs.length + rest.length) 5
      simp; omega
    · have := grownCap_ge w (bs.length + news.length) (bs.length + rest.length) 5
      have := grownCap_le_maxLen w (bs.length + news.length) (bs.length + rest.length) 5 (by unfold maxLen; omega)
      simp; omega

/-- the append, at the operation. -/
theorem wpList_append_buf {ops : Array Oper} {rest : List Oper} {o : Oper} {a : Act} {w : World} {Q : Exit → Act → World → Prop} (hgd : o.guard = none) (s x : Operand) (tx : TypeId)
    (ho : o.op = .call { callee := .builtin .append, args := #[s, x], argTypes := #[34, tx] }) {g : Nat} {v y : Value} {bs news : List UInt8} (hs : a.eval s = v) (hy : a.eval x = y) (h : Buf w g v bs) (hx : BytesIn w tx y news) (hl : bs.length + news.length ≤ 1000000)
    (hK : ∀ g' v' w', Appended w g (bs ++ news) g' v' w' → wpList Tryz.prog ops Q rest (a.put o.dst v') w') : wpList Tryz.prog ops Q (o :: rest) a w := by
  refine wpList_plain hgd fun K hK' => ?_
  obtain ⟨g', v', w', hr, happ⟩ := run_append_buf o.type h hx hl
  unfold Oper.wp execOp
  simp only [ho, resolve, invoke, builtin, Sem.run_bind, Sem.run_pure, Result.andThen_ok, List.map_toArray, List.map_cons, List.map_nil, hs, hy, hr]
  exact hK' _ _ (hK g' v' w' happ)

theorem Buf.setAt {w : World} {g : Nat} {v : Value} {bs : List UInt8} (h : Buf w g v bs) (i : Nat) (b : UInt8) (hi : i < bs.length) : Buf (w.setCell ⟨g, i, none⟩ (bv b)) g v (bs.set i b) := by
  obtain ⟨rest, T, rfl, hg, hm⟩ := h
  refine ⟨rest, T, by simp, ?_, by simpa using hm⟩
  rw [setCell_eq_setRow w g i _ T (0, 0) (bv b) hg, setRow_heap w g _ _ T (0, 0) hg]
  have : (cellsOfBytes (bs ++ rest)).toArray.setIfInBounds i (bv b) = (cellsOfBytes (bs.set i b ++ rest)).toArray := by
    simp only [List.setIfInBounds_toArray, cellsOfBytes_append]
    congr 1
    rw [List.set_append_left _ _ (by simpa [cellsOfBytes] using hi)]
    simp [cellsOfBytes, List.map_set]
  rw [this]

theorem Buf.cellAt {w : World} {g : Nat} {v : Value} {bs : List UInt8} (h : Buf w g v bs) (i : Nat) (hi : i < bs.length) : w.cell? ⟨g, i, none⟩ = some (bv bs[i]) := by
  obtain ⟨rest, T, rfl, hg, hm⟩ := h
  rw [cell_of_row w g i _ T (0, 0) hg]
  simp [cellsOfBytes, List.getElem?_append_left, hi]

theorem Buf.free {w : World} {g : Nat} {v : Value} {bs : List UInt8} (h : Buf w g v bs) (i : Nat) : w.frozen? ⟨g, i, none⟩ = false := by
  obtain ⟨rest, T, rfl, hg, hm⟩ := h
  simp [World.frozen?, hg]

theorem Buf.slice {w : World} {g : Nat} {v : Value} {bs : List UInt8} (h : Buf w g v bs) : ∃ cap, v = .slice (some ⟨g, 0, none⟩) bs.length cap ∧ bs.length ≤ cap ∧ cap ≤ maxLen := by
  obtain ⟨rest, T, rfl, hg, hm⟩ := h
  exact ⟨_, rfl, by simp, hm⟩

/-- a digit's letter. -/
def dg (n : Int) : UInt8 := UInt8.ofNat (48 + n.toNat)
theorem bv_dg (n : Int) (h0 : 0 ≤ n) (h1 : n ≤ 9) : Value.int .u8 (48 + n) = bv (dg n) := by
  unfold bv dg
  rw [UInt8.toNat_ofNat']
  congr 1
  omega

theorem bytesIn_new1 (w : World) (b : UInt8) (x : Value) (hx : x = bv b) : BytesIn (w.alloc (.cells #[x] 5)) 34 (.slice (some ⟨w.heap.size, 0, none⟩) 1 1) [b] := by
  subst hx
  refine bytesIn_slice _ _ _ _ _ rfl fun j c hj => ?_
  match j, hj with
  | 0, hj =>
    simp only [List.getElem?_cons_zero, Option.some.injEq] at hj
    subst hj
    simp [Addr.add]
theorem bytesIn_new2 (w : World) (b c : UInt8) (x y : Value) (hx : x = bv b) (hy : y = bv c) : BytesIn (w.alloc (.cells #[x, y] 5)) 34 (.slice (some ⟨w.heap.size, 0, none⟩) 2 2) [b, c] := by
  subst hx; subst hy
  refine bytesIn_slice _ _ _ _ _ rfl fun j c hj => ?_
  match j, hj with
  | 0, hj | 1, hj =>
    simp only [List.getElem?_cons_zero, List.getElem?_cons_succ, Option.some.injEq] at hj
    subst hj
    simp [Addr.add]

theorem bytesIn_new4 (w : World) (b c d e : UInt8) (x y z u : Value) (hx : x = bv b) (hy : y = bv c) (hz : z = bv d) (hu : u = bv e) : BytesIn (w.alloc (.cells #[x, y, z, u] 5)) 34 (.slice (some ⟨w.heap.size, 0, none⟩) 4 4) [b, c, d, e] := by
  subst hx; subst hy; subst hz; subst hu
  refine bytesIn_slice _ _ _ _ _ rfl fun j c hj => ?_
  match j, hj with
  | 0, hj | 1, hj | 2, hj | 3, hj =>
    simp only [List.getElem?_cons_zero, List.getElem?_cons_succ, Option.some.injEq] at hj
    subst hj
    simp [Addr.add]

theorem Appended.below {w w' : World} {g g' B : Nat} {bs : List UInt8} {v' : Value} (h : Appended w g bs g' v' w') (hB : B ≤ g) (hg : g < w.heap.size) : Below B w w' :=
  ⟨h.grown.os, h.grown.tape, h.grown.output, h.grown.size, fun k hk => h.grown.block k (by omega) (by intro e; cases e; omega)⟩

theorem Appended.refl {w : World} {g : Nat} {v : Value} {bs : List UInt8} (h : Buf w g v bs) : Appended w g bs g v w := ⟨h, ⟨rfl, rfl, rfl, Nat.le_refl _, fun _ _ _ => rfl⟩, .inl rfl⟩

theorem Appended.pre {w w1 w' : World} {g g' : Nat} {bs : List UInt8} {v' : Value} (hb : Below w.heap.size w w1) (h : Appended w1 g bs g' v' w') : Appended w g bs g' v' w' :=
  ⟨h.buf, ⟨h.grown.os.trans hb.os, h.grown.tape.trans hb.tape, h.grown.output.trans hb.output, Nat.le_trans hb.size h.grown.size, fun k hk hne => (h.grown.block k (Nat.lt_of_lt_of_le hk hb.size) hne).trans (hb.block k hk)⟩, h.at_.imp id fun h' => Nat.le_trans hb.size h'⟩

theorem Appended.post {w w1 w' : World} {g g' : Nat} {bs : List UInt8} {v' : Value} (h : Appended w g bs g' v' w1) (hb : Below w1.heap.size w1 w') : Appended w g bs g' v' w' :=
  ⟨h.buf.below hb h.buf.lt, ⟨hb.os.trans h.grown.os, hb.tape.trans h.grown.tape, hb.output.trans h.grown.output, Nat.le_trans h.grown.size hb.size, fun k hk hne => (hb.block k (Nat.lt_of_lt_of_le hk h.grown.size)).trans (h.grown.block k hk hne)⟩, h.at_⟩

theorem Appended.trans {w w1 w' : World} {g g1 g' : Nat} {bs bs' : List UInt8} {v1 v' : Value} (h : Appended w g bs g1 v1 w1) (h' : Appended w1 g1 bs' g' v' w') : Appended w g bs' g' v' w' :=
  ⟨h'.buf, ⟨h'.grown.os.trans h.grown.os, h'.grown.tape.trans h.grown.tape, h'.grown.output.trans h.grown.output, Nat.le_trans h.grown.size h'.grown.size, fun k hk hne => (h'.grown.block k (Nat.lt_of_lt_of_le hk h.grown.size) (by
    intro e; cases e
    rcases h.at_ with e | e
    · exact hne (by rw [e])
    · omega)).trans (h.grown.block k hk hne)⟩, by
    rcases h'.at_ with e | e
    · subst e; exact h.at_
    · exact .inr (Nat.le_trans h.grown.size e)⟩

/-- a store into the row. -/
theorem Appended.setAt {w w1 : World} {g g' : Nat} {bs : List UInt8} {v' : Value} (h : Appended w g bs g' v' w1) (i : Nat) (b : UInt8) (hi : i < bs.length) : Appended w g (bs.set i b) g' v' (w1.setCell ⟨g', i, none⟩ (bv b)) :=
  ⟨h.buf.setAt i b hi, ⟨h.grown.os, h.grown.tape, h.grown.output, by simpa using h.grown.size, fun k hk hne => (Below.heap_setCell w1 ⟨g', i, none⟩ (bv b) k (by
    rcases h.at_ with e | e
    · subst e; intro e; exact hne (by simp at e; rw [e])
    · simp; omega)).trans (h.grown.block k hk hne)⟩, h.at_⟩

/-- the append, at the operation, the value as a slice. -/
theorem wpList_append_buf_s {ops : Array Oper} {rest : List Oper} {o : Oper} {a : Act} {w : World} {Q : Exit → Act → World → Prop} (hgd : o.guard = none) (s x : Operand) (tx : TypeId)
    (ho : o.op = .call { callee := .builtin .append, args := #[s, x], argTypes := #[34, tx] }) {g L c0 : Nat} {y : Value} {bs news : List UInt8} (m : Nat) (hs : a.eval s = .slice (some ⟨g, 0, none⟩) L c0) (hy : a.eval x = y) (h : Buf w g (.slice (some ⟨g, 0, none⟩) L c0) bs) (hx : BytesIn w tx y news) (hm : news.length = m) (hl : L + m ≤ 1000000)
    (hK : ∀ g' cap w', Appended w g (bs ++ news) g' (.slice (some ⟨g', 0, none⟩) (L + m) cap) w' → L + m ≤ cap → (cap : Int) ≤ 9223372036854775807 → wpList Tryz.prog ops Q rest (a.put o.dst (.slice (some ⟨g', 0, none⟩) (L + m) cap)) w') : wpList Tryz.prog ops Q (o :: rest) a w := by
  subst hm
  have hL : L = bs.length := by
    obtain ⟨_, e, _⟩ := h.slice
    simp only [Value.slice.injEq, true_and] at e
    exact e.1
  subst hL
  refine wpList_append_buf hgd s x tx ho hs hy h hx hl fun g' v' w' happ => ?_
  obtain ⟨cap, rfl, h1, h2⟩ := happ.buf.slice
  unfold maxLen at h2
  simp only [List.length_append] at happ h1 ⊢
  exact hK g' cap w' happ h1 (by omega)

theorem Buf.len {w : World} {g L cap : Nat} {bs : List UInt8} (h : Buf w g (.slice (some ⟨g, 0, none⟩) L cap) bs) : L = bs.length := by
  obtain ⟨_, e, _⟩ := h.slice
  simp only [Value.slice.injEq, true_and] at e
  exact e.1

theorem Buf.extend {w : World} {g L cap : Nat} {bs : List UInt8} (h : Buf w g (.slice (some ⟨g, 0, none⟩) L cap) bs) (n : Nat) (hn : L + n ≤ cap) : ∃ more : List UInt8, more.length = n ∧ Buf w g (.slice (some ⟨g, 0, none⟩) (L + n) cap) (bs ++ more) := by
  have hL := h.len
  subst hL
  obtain ⟨rest, T, hv, hg, hm⟩ := h
  simp only [Value.slice.injEq, true_and] at hv
  have hr : n ≤ rest.length := by rw [hv] at hn; simp at hn; omega
  refine ⟨rest.take n, by simp; omega, rest.drop n, T, ?_, by simpa using hg, by simpa using hm⟩
  rw [hv]; simp; omega

theorem run_append_zeros {w : World} {g cap : Nat} {bs : List UInt8} (ty : TypeId) (n : Nat) (h : Buf w g (.slice (some ⟨g, 0, none⟩) bs.length cap) bs) (hl : bs.length + n ≤ 1000000) (hn : cap < bs.length + n) (hn0 : 0 < n) :
    ∃ cap' w', (Builtin.append_ #[34, 3] ty #[.slice (some ⟨g, 0, none⟩) bs.length cap, .int .i64 n]).run Tryz.prog w = .ok (.slice (some ⟨w.heap.size, 0, none⟩) (bs.length + n) cap') w' ∧ Appended w g (bs ++ List.replicate n 0) w.heap.size (.slice (some ⟨w.heap.size, 0, none⟩) (bs.length + n) cap') w' := by
  obtain ⟨i, hi, hz, hs, hb⟩ := info_parts info5
  obtain ⟨rest, T, hv, hg, hm⟩ := h
  simp only [Value.slice.injEq, true_and] at hv
  subst hv
  have hfo := run_firstCells_some (P := Tryz.prog) w.drew 1 bs.length ⟨g, 0, none⟩ bs.length (bs ++ rest).length (cellsOfBytes bs) (by simp [cellsOfBytes]) (by
    intro j u hu
    have hadd : (⟨g, 0, none⟩ : Addr).add j = ⟨g, j, none⟩ := by unfold Addr.add; split <;> simp_all
    have hd' : w.drew.heap[g]? = some (.cells (cellsOfBytes (bs ++ rest)).toArray T (0, 0)) := hg
    rw [hadd, cell_of_row w.drew g j _ T (0, 0) hd']
    rw [cellsOfBytes_append]
    have hj : j < (cellsOfBytes bs).length := (List.getElem?_eq_some_iff.1 hu).1
    simp only [List.getElem?_toArray, List.getElem?_append_left hj]
    exact hu)
  simp only [List.length_append] at hn
  have hn2 : ¬ (n ≤ rest.length) := by omega
  have h63' : ¬ (9223372036854775807 < ((bs.length : Int) + (n : Int))) := by omega
  have hcap : Builtin.nextslicecap (bs.length + n) (bs.length + rest.length) * i.bytes ≤ 281474976710656 := growslice_fits (by omega) (by rw [hb]; omega)
  rw [hb, Nat.mul_one] at hcap
  have h48' : ¬ (281474976710656 < Builtin.nextslicecap (bs.length + n) (bs.length + rest.length)) := by omega
  have hw : IntKind.i64.wrap (n : Int) = n := IntWalk.i64_in _ (by omega)
  have hp1 : ¬ ((n : Int) < 0) := by omega
  have hp2 : ¬ ((281474976710656 : Int) < n) := by omega
  have hp3 : n ≠ 0 := by omega
  refine ⟨grownCap w (bs.length + n) (bs.length + rest.length) 5, w.drew.alloc (.cells (cellsOfBytes ((bs ++ List.replicate n 0) ++ List.replicate (grownCap w (bs.length + n) (bs.length + rest.length) 5 - (bs.length + n)) 0)).toArray 5), ?_, ⟨⟨List.replicate (grownCap w (bs.length + n) (bs.length + rest.length) 5 - (bs.length + n)) 0, 5, ?_, heap_new_drew w _, ?_⟩, ⟨rfl, rfl, rfl, by simp, fun k hk _ => Below.heap_alloc w.drew _ k hk⟩, .inr (Nat.le_refl _)⟩⟩
  · simp only [List.length_append]
    have e1 : (cellsOfBytes (bs ++ List.replicate n 0 ++ List.replicate (grownCap w (bs.length + n) (bs.length + rest.length) 5 - (bs.length + n)) 0)).toArray = (cellsOfBytes bs).toArray ++ (Builtin.zeroCells (Value.int .u8 0).cells n ++ Builtin.zeroCells (Value.int .u8 0).cells (grownCap w (bs.length + n) (bs.length + rest.length) 5 - (bs.length + n))) := by
      rw [zeroCells_bytes, zeroCells_bytes]; simp [cellsOfBytes]
    rw [e1]
    unfold grownCap
    simp only [List.length_append] at hfo
    simp [Builtin.append_, run_underlying Tryz.underlying34, run_underlying Tryz.underlying3, sizeOf, typeInfo, zeroValue, hi, hs, hb, hz, hn2, h63', h48', Question.forced, hfo, newRow, hw, hp1, hp2, hp3, asInt, asIntOf]
  · have := grownCap_ge w (bs.length + n) (bs.length + rest.length) 5
    simp; omega
  · have := grownCap_ge w (bs.length + n) (bs.length + rest.length) 5
    have := grownCap_le_maxLen w (bs.length + n) (bs.length + rest.length) 5 (by unfold maxLen; omega)
    simp; omega

theorem wpList_append_zeros {ops : Array Oper} {rest : List Oper} {o : Oper} {a : Act} {w : World} {Q : Exit → Act → World → Prop} (hgd : o.guard = none) (s x : Operand)
    (ho : o.op = .call { callee := .builtin .append, args := #[s, x], argTypes := #[34, 3] }) {g L cap : Nat} {bs : List UInt8} (n : Nat) (hs : a.eval s = .slice (some ⟨g, 0, none⟩) L cap) (hy : a.eval x = .int .i64 n) (h : Buf w g (.slice (some ⟨g, 0, none⟩) L cap) bs) (hl : L + n ≤ 1000000) (hn : cap < L + n) (hn0 : 0 < n)
    (hK : ∀ cap' w', Appended w g (bs ++ List.replicate n 0) w.heap.size (.slice (some ⟨w.heap.size, 0, none⟩) (L + n) cap') w' → wpList Tryz.prog ops Q rest (a.put o.dst (.slice (some ⟨w.heap.size, 0, none⟩) (L + n) cap')) w') : wpList Tryz.prog ops Q (o :: rest) a w := by
  have hL := h.len
  subst hL
  refine wpList_plain hgd fun K hK' => ?_
  obtain ⟨cap', w', hr, happ⟩ := run_append_zeros o.type n h hl hn hn0
  unfold Oper.wp execOp
  simp only [ho, resolve, invoke, builtin, Sem.run_bind, Sem.run_pure, Result.andThen_ok, List.map_toArray, List.map_cons, List.map_nil, hs, hy, hr]
  exact hK' _ _ (hK cap' w' happ)

theorem set_one {bs more : List UInt8} (d : UInt8) (hm : more.length = 1) : (bs ++ more).set bs.length d = bs ++ [d] := by
  match more, hm with
  | [a], _ => simp
theorem set_two {bs more : List UInt8} (d e : UInt8) (hm : more.length = 2) : ((bs ++ more).set (bs.length + 1) e).set bs.length d = bs ++ [d, e] := by
  match more, hm with
  | [a, b], _ => simp
theorem set_three {bs more : List UInt8} (d e f : UInt8) (hm : more.length = 3) : (((bs ++ more).set (bs.length + 2) f).set (bs.length + 1) e).set bs.length d = bs ++ [d, e, f] := by
  match more, hm with
  | [a, b, c], _ => simp

/-- the end of a call that appends. -/
def AppPost (w : World) (g : Nat) (bs : List UInt8) (e : Ending) (w' : World) : Prop := ∃ g' v', e = .returned v' ∧ Appended w g bs g' v' w'
end Go.Proofs.YtkcgngpoegglnaaGreatDoor
