/- The second package: the buffer; the contracts of its two public functions. -/
import Derived.Outline
import Derived.Laws.EntriesVeiled
import Derived.Test.YtkcgngpoegglnaaGreatDoorM22
namespace Go.Proofs.YtkcgngpoegglnaaGreatDoor
open Go Go.RowKit
set_option linter.unusedVariables false
set_option linter.unusedSimpArgs false

/-- the end of a call that makes an empty row. -/
def BufPost (w : World) (e : Ending) (w' : World) : Prop := ∃ g v, e = .returned v ∧ Buf w' g v [] ∧ Below w.heap.size w w' ∧ w.heap.size ≤ g

theorem buf_new (w : World) (n : Nat) (T : TypeId) (hn : n ≤ maxLen) : Buf (w.alloc (.cells (cellsOfBytes (List.replicate n 0)).toArray T)) w.heap.size (.slice (some ⟨w.heap.size, 0, none⟩) 0 n) [] := by
  refine ⟨List.replicate n 0, T, by simp, ?_, by simpa using hn⟩
  show (w.heap.push _)[w.heap.size]? = _
  simp

set_option maxRecDepth 100000 in
theorem buffer_small (s : ByteArray) (w : World) (hs : s.size < 54) : Calls Tryz.prog 37 #[.string s] w (BufPost w) := by
  go_enter Tryz.func37, Tryz.ntmps37
  go_wp2
  go_ret
  exact ⟨_, _, rfl, buf_new w 64 _ (by decide), (Below.refl _ _).alloc (Nat.le_refl _) _, Nat.le_refl _⟩

theorem madeCells_bytes (n : Nat) : madeCells (Value.int .u8 0).cells n = (cellsOfBytes (List.replicate n 0)).toArray := by
  have hz : (Value.int .u8 0).cells = #[.int .u8 0] := rfl
  rw [hz]
  apply Array.ext
  · simp [madeCells, cellsOfBytes]
  · intro i h1 h2
    simp [madeCells, cellsOfBytes, bv]
    rw [Nat.mod_one]
    rfl

theorem run_make_bytes (w : World) (n : Nat) (hn : n ≤ 2000) : (Instr.makeSlice 34 (.int .i64 0) (.int .i64 (n : Int))).run Tryz.prog w = .ok (.slice (some ⟨w.heap.size, 0, none⟩) 0 n) (w.alloc (.cells (cellsOfBytes (List.replicate n 0)).toArray 5)) := by
  obtain ⟨i, hi, hz, hs, hb⟩ := info_parts info5
  have h := run_makeSlice (P := Tryz.prog) w 34 5 i (.int .u8 0) Tryz.underlying34 hi hz .i64 .i64 0 n (Int.le_refl _) (by omega) (by rw [hs]; simp; omega) (by rw [hb]; simp; omega) (by omega)
  rw [hs] at h
  simp only [Int.toNat_natCast, Nat.mul_one, madeCells_bytes, Int.toNat_zero] at h
  exact h

set_option maxRecDepth 100000 in
theorem buffer_big (s : ByteArray) (w : World) (hs : ¬ s.size < 54) (h2 : s.size ≤ 1000) : Calls Tryz.prog 37 #[.string s] w (BufPost w) := by
  have hmk : ∀ w, (Instr.makeSlice 34 (.int .i64 0) (.int .i64 ((s.size : Int) + 10))).run Tryz.prog w = .ok (.slice (some ⟨w.heap.size, 0, none⟩) 0 (s.size + 10)) (w.alloc (.cells (cellsOfBytes (List.replicate (s.size + 10) 0)).toArray 5)) := fun w => run_make_bytes w (s.size + 10) (by omega)
  have hbn := buf_new w (s.size + 10) 5 (by unfold maxLen; omega)
  generalize (cellsOfBytes (List.replicate (s.size + 10) 0)).toArray = cs at *
  have H := Lib.hid hbn
  clear hbn
  go_enter Tryz.func37, Tryz.ntmps37
  go_wp2
  go_ret
  exact ⟨_, _, rfl, H.out, (Below.refl _ _).alloc (Nat.le_refl _) _, Nat.le_refl _⟩

theorem buffer_any (s : ByteArray) (w : World) (h2 : s.size ≤ 1000) : Calls Tryz.prog 37 #[.string s] w (BufPost w) := by
  by_cases hs : s.size < 54
  · exact buffer_small s w hs
  · exact buffer_big s w hs h2

/-- the end of a call that hands back a row of bytes. -/
def RowPost (w : World) (C : Nat) (out : List UInt8) (e : Ending) (w' : World) : Prop := ∃ g v, e = .returned v ∧ Buf w' g v out ∧ Below C w w'

theorem st_new {w : World} {g C : Nat} {v : Value} {out : List UInt8} {wl ex : Int} {lc : Option Addr} {A : Int} {nm : ByteArray} {off : Int} (P : Array Value) (hT : TimeAt w C wl ex lc A nm off) (hx : Std0x w) (h2 : 2 ≤ C) (hg : C ≤ g) (hB : Buf w g v out) :
    St (((w.alloc (.cells #[v] 34)).alloc (.cells #[.int .u64 wl, .int .i64 ex, .pointer lc] 48)).alloc (.cells P 134)) w.heap.size (w.heap.size + 1) g v out C wl ex lc A nm off ∧
      (((w.alloc (.cells #[v] 34)).alloc (.cells #[.int .u64 wl, .int .i64 ex, .pointer lc] 48)).alloc (.cells P 134)).heap[w.heap.size + 2]? = some (.cells P 134 (0, 0)) := by
  have hb : Below w.heap.size w (((w.alloc (.cells #[v] 34)).alloc (.cells #[.int .u64 wl, .int .i64 ex, .pointer lc] 48)).alloc (.cells P 134)) := (((Below.refl _ _).alloc (Nat.le_refl _) _).alloc (by simp) _).alloc (by simp; omega) _
  have hlt := hB.lt
  obtain ⟨x0, x1, x2, x3, x4, x5⟩ := hx
  refine ⟨⟨⟨?_, hB.below hb hlt⟩, ?_, hT.below hb hT.b, ⟨cell_keeps hb x0, cell_keeps hb x1, cell_keeps hb x2, cell_keeps hb x3, cell_keeps hb x4, cell_keeps hb x5⟩, h2, hg, hT.b⟩, ?_⟩
  · show (((w.heap.push _).push _).push _)[w.heap.size]? = _
    rw [Array.getElem?_push_lt (by simp; omega), Array.getElem_push_lt (by simp)]
    simp
  · show (((w.heap.push _).push _).push _)[w.heap.size + 1]? = _
    rw [Array.getElem?_push_lt (by simp)]
    simp [Array.getElem_push]
  · show (((w.heap.push _).push _).push _)[w.heap.size + 2]? = _
    simp [Array.getElem?_push, Array.getElem_push]

set_option maxRecDepth 100000 in
theorem secAppend_any (T : STime) (hD : DirOK T) (w : World) (g C : Nat) (v : Value) (out : List UInt8) (wl ex : Int) (lc : Option Addr) (l x : List UInt8) (s : ByteArray) (hs : s.data.toList = l) (hll : l.length ≤ 100) (hT : TimeAt w C wl ex lc (absT T) T.nm T.off)
    (hx : Std0x w) (h2 : 2 ≤ C) (hg : C ≤ g) (hB : Buf w g v out) (ht : textF T l = some x) (hlen : (out ++ x).length ≤ 400000) :
    Calls Tryz.prog 38 #[v, .string s, .agg #[.int .u64 wl, .int .i64 ex, .pointer lc]] w (RowPost w C (out ++ x)) := by
  obtain ⟨n, cap, rfl⟩ := hB.shape
  have hC := hT.b
  obtain ⟨S, hp⟩ := st_new (parserCells w.heap.size (w.heap.size + 1)) hT hx h2 hg hB
  have H := parse_any T hD _ w.heap.size (w.heap.size + 1) (w.heap.size + 2) g C _ out wl ex lc l x s hs hll S hp ht hlen
  have hb : Below C w (((w.alloc (.cells #[.slice (some ⟨g, 0, none⟩) n cap] 34)).alloc (.cells #[.int .u64 wl, .int .i64 ex, .pointer lc] 48)).alloc (.cells (parserCells w.heap.size (w.heap.size + 1)) 134)) := (((Below.refl _ _).alloc (by omega) _).alloc (by simp; omega) _).alloc (by simp; omega) _
  have HB := Lib.hid hb
  clear hb S hp
  unfold parserCells at *
  have hmf : ∀ (fn : Fn) (first cap : Array Value) (w : World), (Instr.makeFunc fn first cap).run Tryz.prog w = .ok (.func fn first cap) w := fun _ _ _ _ => rfl
  go_enter Tryz.func38, Tryz.ntmps38
  go_wp2_with (first | (go_at_call 75; refine H.mono ?_; rintro e w1 ⟨rfl, g', v', hW⟩; obtain ⟨n', cap', rfl⟩ := hW.dst.buf.shape; have c0 := cell_of_one hW.dst.at_; have HW := Lib.hid hW; clear hW))
  go_ret
  exact ⟨g', _, rfl, HW.out.dst.buf, HB.out.trans (HW.out.below hg (by omega) (by simp; omega))⟩

theorem conv_bytes {w : World} {g : Nat} {cap : Nat} {l : List UInt8} (hB : Buf w g (.slice (some ⟨g, 0, none⟩) l.length cap) l) : (convert 34 9 (.slice (some ⟨g, 0, none⟩) l.length cap)).run Tryz.prog w = .ok (.string (bs l)) w := by
  refine run_convert_bytes_back w 34 9 5 ⟨g, 0, none⟩ cap l Tryz.underlying34 Tryz.underlying5 Tryz.underlying9 fun j hj => ?_
  have := hB.cellAt j hj
  have e : (⟨g, 0, none⟩ : Addr).add j = ⟨g, j, none⟩ := by unfold Addr.add; split <;> simp_all
  rw [e, this]; rfl

set_option maxRecDepth 100000 in
/-- the second package's text of a format. -/
theorem secFormat_any (T : STime) (hD : DirOK T) (w : World) (wl ex : Int) (lc : Option Addr) (l x : List UInt8) (s : ByteArray) (hs : s.data.toList = l) (hll : l.length ≤ 100) (hT : TimeAt w w.heap.size wl ex lc (absT T) T.nm T.off)
    (hx : Std0x w) (ht : textF T l = some x) (hlen : x.length ≤ 400000) :
    Calls Tryz.prog 19 #[.string s, .agg #[.int .u64 wl, .int .i64 ex, .pointer lc]] w fun e w' => e = .returned (.string (bs x)) ∧ Below w.heap.size w w' := by
  have h2 : 2 ≤ w.heap.size := World.block_lt_of_cell? w _ hx.1
  have hsz : s.size ≤ 1000 := by
    have : s.size = l.length := by rw [← hs]; rfl
    omega
  have HB := fun w => buffer_any s w hsz
  have HA := fun (w1 : World) (g : Nat) (v : Value) (hb : Below w.heap.size w w1) (hB : Buf w1 g v []) (hg : w.heap.size ≤ g) => secAppend_any T hD w1 g w.heap.size v [] wl ex lc l x s hs hll (hT.below hb (Nat.le_refl _)) ⟨cell_keeps hb hx.1, cell_keeps hb hx.2.1, cell_keeps hb hx.2.2.1, cell_keeps hb hx.2.2.2.1, cell_keeps hb hx.2.2.2.2.1, cell_keeps hb hx.2.2.2.2.2⟩ h2 hg hB ht hlen
  clear hsz hs ht hT hlen
  go_enter Tryz.func19, Tryz.ntmps19
  go_wp2_with (first | (go_at_call 37; refine (HB _).mono ?_; rintro e w1 ⟨g1, v1, rfl, hB1, hb1, hg1⟩; obtain ⟨hc1, hf1⟩ := bcell hb1; have T1 := Lib.hid (HA w1 g1 v1 (((Below.refl _ _).alloc (Nat.le_refl _) _).trans (hb1.mono (by simp))) hB1 (by simp at hg1; omega))) | (go_at_call 38; refine T1.out.mono ?_; rintro e w2 ⟨g2, v2, rfl, hB2, hb2⟩; rw [List.nil_append] at hB2; obtain ⟨cap2, rfl, _, _⟩ := hB2.slice; have kb := conv_bytes hB2))
  go_ret
  exact ⟨rfl, (((Below.refl _ _).alloc (Nat.le_refl _) _).trans (hb1.mono (by simp))).trans hb2⟩
end Go.Proofs.YtkcgngpoegglnaaGreatDoor
