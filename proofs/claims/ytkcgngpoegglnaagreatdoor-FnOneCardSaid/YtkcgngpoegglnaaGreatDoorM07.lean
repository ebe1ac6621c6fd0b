/- The rounds of the search for the next element of a layout. -/
import Derived.Test.YtkcgngpoegglnaaGreatDoorM06
namespace Go.Proofs.YtkcgngpoegglnaaGreatDoor
open Go Go.RowKit
set_option linter.unusedVariables false
set_option linter.unusedSimpArgs false

set_option maxRecDepth 1000000 in
set_option maxHeartbeats 8000000 in
theorem chunk_15 (s : ByteArray) (k : Nat) (t : Array Value) (w : World) (Q : Exit → Act → World → Prop) (K : Act → World → Prop) (hs : s.size ≤ 1000) (hk : k + 2 ≤ s.size)
    (ht : ChunkT s k t) (h0 : ((s[k]'(by omega)).toNat : Int) = 49) (h1 : ((s[k + 1]'(by omega)).toNat : Int) = 53)
    (hQ : ∀ (t' : Array Value) (n : Nat), ChunkR (s.extract 0 k) 1036 (s.extract (k + 2) s.size) t' → Q .ret ⟨t', []⟩ (w.drewN n)) :
    chunkBody.wp Tryz.prog (Exit.then K Q) ⟨t, []⟩ w := by
  obtain ⟨z, t0, t5⟩ := ht
  have hlt : k < s.size := by omega
  have b1 : k ≤ s.size := by omega
  have b2 : (k : Int) ≤ (s.size : Int) := by omega
  have b4 : (0 : Int) ≤ (k : Int) := by omega
  have p1 : (k : Int) + 1 ≤ (s.size : Int) := by omega
  have q1 : (0 : Int) ≤ (k : Int) + 1 := by omega
  have r1 : ((k : Int) + 1).toNat = k + 1 := by omega
  have w1 : IntKind.i64.wrap ((k : Int) + 1) = (k : Int) + 1 := IntWalk.i64_in _ (by omega)
  have p2 : (k : Int) + 2 ≤ (s.size : Int) := by omega
  have q2 : (0 : Int) ≤ (k : Int) + 2 := by omega
  have r2 : ((k : Int) + 2).toNat = k + 2 := by omega
  have w2 : IntKind.i64.wrap ((k : Int) + 2) = (k : Int) + 2 := IntWalk.i64_in _ (by omega)
  have l1 : (k : Int) + 1 < (s.size : Int) := by omega
  have l1n : k + 1 < s.size := by omega
  conv => arg 2; whnf
  repeat (first | ((with_reducible refine wp_cond_true ?_ ?_); (focus (go_simp; done))) | ((with_reducible refine wp_cond_false ?_ ?_); (focus (go_simp; done))) | go_guarded | go_step)
  go_quiet (fail)
  repeat (first | ((with_reducible refine wp_cond_true ?_ ?_); (focus (go_simp; done))) | ((with_reducible refine wp_cond_false ?_ ?_); (focus (go_simp; done))) | go_guarded | go_step)
  refine ⟨?_, ?_, ?_, ?_⟩
  · simp [z]
  · intro h; simp [z]
  · intro h; simp [z]
  · intro h; simp [z]

set_option maxRecDepth 1000000 in
set_option maxHeartbeats 8000000 in
theorem chunk_2006 (s : ByteArray) (k : Nat) (t : Array Value) (w : World) (Q : Exit → Act → World → Prop) (K : Act → World → Prop) (hs : s.size ≤ 1000) (hk : k + 4 ≤ s.size)
    (ht : ChunkT s k t) (h0 : ((s[k]'(by omega)).toNat : Int) = 50) (e : ((s.extract k (k + 4)).toList == [50, 48, 48, 54]) = true)
    (hQ : ∀ (t' : Array Value) (n : Nat), ChunkR (s.extract 0 k) 275 (s.extract (k + 4) s.size) t' → Q .ret ⟨t', []⟩ (w.drewN n)) :
    chunkBody.wp Tryz.prog (Exit.then K Q) ⟨t, []⟩ w := by
  obtain ⟨z, t0, t5⟩ := ht
  have hlt : k < s.size := by omega
  have b1 : k ≤ s.size := by omega
  have b2 : (k : Int) ≤ (s.size : Int) := by omega
  have b4 : (0 : Int) ≤ (k : Int) := by omega
  have p1 : (k : Int) + 1 ≤ (s.size : Int) := by omega
  have q1 : (0 : Int) ≤ (k : Int) + 1 := by omega
  have r1 : ((k : Int) + 1).toNat = k + 1 := by omega
  have w1 : IntKind.i64.wrap ((k : Int) + 1) = (k : Int) + 1 := IntWalk.i64_in _ (by omega)
  have p4 : (k : Int) + 4 ≤ (s.size : Int) := by omega
  have q4 : (0 : Int) ≤ (k : Int) + 4 := by omega
  have r4 : ((k : Int) + 4).toNat = k + 4 := by omega
  have w4 : IntKind.i64.wrap ((k : Int) + 4) = (k : Int) + 4 := IntWalk.i64_in _ (by omega)
  have l1 : (k : Int) + 1 < (s.size : Int) := by omega
  have l1n : k + 1 < s.size := by omega
  conv => arg 2; whnf
  repeat (first | ((with_reducible refine wp_cond_true ?_ ?_); (focus (go_simp; done))) | ((with_reducible refine wp_cond_false ?_ ?_); (focus (go_simp; done))) | go_guarded | go_step)
  go_quiet (fail)
  repeat (first | ((with_reducible refine wp_cond_true ?_ ?_); (focus (go_simp; done))) | ((with_reducible refine wp_cond_false ?_ ?_); (focus (go_simp; done))) | go_guarded | go_step)
  refine ⟨?_, ?_, ?_, ?_⟩
  · simp [z]
  · intro h; simp [z]
  · intro h; simp [z]
  · intro h; simp [z]

set_option maxRecDepth 1000000 in
set_option maxHeartbeats 8000000 in
theorem chunk_PM (s : ByteArray) (k : Nat) (t : Array Value) (w : World) (Q : Exit → Act → World → Prop) (K : Act → World → Prop) (hs : s.size ≤ 1000) (hk : k + 2 ≤ s.size)
    (ht : ChunkT s k t) (h0 : ((s[k]'(by omega)).toNat : Int) = 80) (h1 : ((s[k + 1]'(by omega)).toNat : Int) = 77)
    (hQ : ∀ (t' : Array Value) (n : Nat), ChunkR (s.extract 0 k) 1045 (s.extract (k + 2) s.size) t' → Q .ret ⟨t', []⟩ (w.drewN n)) :
    chunkBody.wp Tryz.prog (Exit.then K Q) ⟨t, []⟩ w := by
  obtain ⟨z, t0, t5⟩ := ht
  have hlt : k < s.size := by omega
  have b1 : k ≤ s.size := by omega
  have b2 : (k : Int) ≤ (s.size : Int) := by omega
  have b4 : (0 : Int) ≤ (k : Int) := by omega
  have p1 : (k : Int) + 1 ≤ (s.size : Int) := by omega
  have q1 : (0 : Int) ≤ (k : Int) + 1 := by omega
  have r1 : ((k : Int) + 1).toNat = k + 1 := by omega
  have w1 : IntKind.i64.wrap ((k : Int) + 1) = (k : Int) + 1 := IntWalk.i64_in _ (by omega)
  have p2 : (k : Int) + 2 ≤ (s.size : Int) := by omega
  have q2 : (0 : Int) ≤ (k : Int) + 2 := by omega
  have r2 : ((k : Int) + 2).toNat = k + 2 := by omega
  have w2 : IntKind.i64.wrap ((k : Int) + 2) = (k : Int) + 2 := IntWalk.i64_in _ (by omega)
  have l1 : (k : Int) + 1 < (s.size : Int) := by omega
  have l1n : k + 1 < s.size := by omega
  conv => arg 2; whnf
  repeat (first | ((with_reducible refine wp_cond_true ?_ ?_); (focus (go_simp; done))) | ((with_reducible refine wp_cond_false ?_ ?_); (focus (go_simp; done))) | go_guarded | go_step)
  go_quiet (fail)
  repeat (first | ((with_reducible refine wp_cond_true ?_ ?_); (focus (go_simp; done))) | ((with_reducible refine wp_cond_false ?_ ?_); (focus (go_simp; done))) | go_guarded | go_step)
  refine ⟨?_, ?_, ?_, ?_⟩
  · simp [z]
  · intro h; simp [z]
  · intro h; simp [z]
  · intro h; simp [z]

set_option maxRecDepth 1000000 in
set_option maxHeartbeats 8000000 in
theorem chunk_002 (s : ByteArray) (k : Nat) (t : Array Value) (w : World) (Q : Exit → Act → World → Prop) (K : Act → World → Prop) (hs : s.size ≤ 1000) (hk : k + 3 ≤ s.size)
    (ht : ChunkT s k t) (h0 : ((s[k]'(by omega)).toNat : Int) = 48) (h1 : ((s[k + 1]'(by omega)).toNat : Int) = 48) (h2 : ((s[k + 2]'(by omega)).toNat : Int) = 50)
    (hQ : ∀ (t' : Array Value) (n : Nat), ChunkR (s.extract 0 k) 523 (s.extract (k + 3) s.size) t' → Q .ret ⟨t', []⟩ (w.drewN n)) :
    chunkBody.wp Tryz.prog (Exit.then K Q) ⟨t, []⟩ w := by
  obtain ⟨z, t0, t5⟩ := ht
  have hlt : k < s.size := by omega
  have b1 : k ≤ s.size := by omega
  have b2 : (k : Int) ≤ (s.size : Int) := by omega
  have b4 : (0 : Int) ≤ (k : Int) := by omega
  have p1 : (k : Int) + 1 ≤ (s.size : Int) := by omega
  have q1 : (0 : Int) ≤ (k : Int) + 1 := by omega
  have r1 : ((k : Int) + 1).toNat = k + 1 := by omega
  have w1 : IntKind.i64.wrap ((k : Int) + 1) = (k : Int) + 1 := IntWalk.i64_in _ (by omega)
  have p2 : (k : Int) + 2 ≤ (s.size : Int) := by omega
  have q2 : (0 : Int) ≤ (k : Int) + 2 := by omega
  have r2 : ((k : Int) + 2).toNat = k + 2 := by omega
  have w2 : IntKind.i64.wrap ((k : Int) + 2) = (k : Int) + 2 := IntWalk.i64_in _ (by omega)
  have p3 : (k : Int) + 3 ≤ (s.size : Int) := by omega
  have q3 : (0 : Int) ≤ (k : Int) + 3 := by omega
  have r3 : ((k : Int) + 3).toNat = k + 3 := by omega
  have w3 : IntKind.i64.wrap ((k : Int) + 3) = (k : Int) + 3 := IntWalk.i64_in _ (by omega)
  have l1 : (k : Int) + 1 < (s.size : Int) := by omega
  have l1n : k + 1 < s.size := by omega
  have l2 : (k : Int) + 2 < (s.size : Int) := by omega
  have l2n : k + 2 < s.size := by omega
  conv => arg 2; whnf
  repeat (first | ((with_reducible refine wp_cond_true ?_ ?_); (focus (go_simp; done))) | ((with_reducible refine wp_cond_false ?_ ?_); (focus (go_simp; done))) | go_guarded | go_step)
  go_quiet (fail)
  repeat (first | ((with_reducible refine wp_cond_true ?_ ?_); (focus (go_simp; done))) | ((with_reducible refine wp_cond_false ?_ ?_); (focus (go_simp; done))) | go_guarded | go_step)
  refine ⟨?_, ?_, ?_, ?_⟩
  · simp [z]
  · intro h; simp [z]
  · intro h; simp [z]
  · intro h; simp [z]

set_option maxRecDepth 1000000 in
set_option maxHeartbeats 8000000 in
theorem chunk_01 (s : ByteArray) (k : Nat) (t : Array Value) (w : World) (Q : Exit → Act → World → Prop) (K : Act → World → Prop) (hs : s.size ≤ 1000) (hk : k + 2 ≤ s.size)
    (ht : ChunkT s k t) (h0 : ((s[k]'(by omega)).toNat : Int) = 48) (h1 : ((s[k + 1]'(by omega)).toNat : Int) = 49) (hx : Std0x w)
    (hQ : ∀ (t' : Array Value) (n : Nat), ChunkR (s.extract 0 k) 260 (s.extract (k + 2) s.size) t' → Q .ret ⟨t', []⟩ (w.drewN n)) :
    chunkBody.wp Tryz.prog (Exit.then K Q) ⟨t, []⟩ w := by
  obtain ⟨z, t0, t5⟩ := ht
  have hlt : k < s.size := by omega
  have b1 : k ≤ s.size := by omega
  have b2 : (k : Int) ≤ (s.size : Int) := by omega
  have b4 : (0 : Int) ≤ (k : Int) := by omega
  have p1 : (k : Int) + 1 ≤ (s.size : Int) := by omega
  have q1 : (0 : Int) ≤ (k : Int) + 1 := by omega
  have r1 : ((k : Int) + 1).toNat = k + 1 := by omega
  have w1 : IntKind.i64.wrap ((k : Int) + 1) = (k : Int) + 1 := IntWalk.i64_in _ (by omega)
  have p2 : (k : Int) + 2 ≤ (s.size : Int) := by omega
  have q2 : (0 : Int) ≤ (k : Int) + 2 := by omega
  have r2 : ((k : Int) + 2).toNat = k + 2 := by omega
  have w2 : IntKind.i64.wrap ((k : Int) + 2) = (k : Int) + 2 := IntWalk.i64_in _ (by omega)
  have l1 : (k : Int) + 1 < (s.size : Int) := by omega
  have l1n : k + 1 < s.size := by omega
  have u0 : IntKind.u8.wrap 0 = 0 := by decide
  have u1 : IntKind.u8.wrap 1 = 1 := by decide
  have u2 : IntKind.u8.wrap 2 = 2 := by decide
  have u3 : IntKind.u8.wrap 3 = 3 := by decide
  have u4 : IntKind.u8.wrap 4 = 4 := by decide
  have u5 : IntKind.u8.wrap 5 = 5 := by decide
  obtain ⟨x0, x1, x2, x3, x4, x5⟩ := hx
  conv => arg 2; whnf
  repeat (first | ((with_reducible refine wp_cond_true ?_ ?_); (focus (go_simp; done))) | ((with_reducible refine wp_cond_false ?_ ?_); (focus (go_simp; done))) | go_guarded | go_step)
  go_quiet (fail)
  repeat (first | ((with_reducible refine wp_cond_true ?_ ?_); (focus (go_simp; done))) | ((with_reducible refine wp_cond_false ?_ ?_); (focus (go_simp; done))) | go_guarded | go_step)
  refine ⟨?_, ?_, ?_, ?_⟩
  · simp [z]
  · intro h; simp [z]
  · intro h; simp [z]
  · intro h; simp [z]

set_option maxRecDepth 1000000 in
set_option maxHeartbeats 8000000 in
theorem chunk_02 (s : ByteArray) (k : Nat) (t : Array Value) (w : World) (Q : Exit → Act → World → Prop) (K : Act → World → Prop) (hs : s.size ≤ 1000) (hk : k + 2 ≤ s.size)
    (ht : ChunkT s k t) (h0 : ((s[k]'(by omega)).toNat : Int) = 48) (h1 : ((s[k + 1]'(by omega)).toNat : Int) = 50) (hx : Std0x w)
    (hQ : ∀ (t' : Array Value) (n : Nat), ChunkR (s.extract 0 k) 265 (s.extract (k + 2) s.size) t' → Q .ret ⟨t', []⟩ (w.drewN n)) :
    chunkBody.wp Tryz.prog (Exit.then K Q) ⟨t, []⟩ w := by
  obtain ⟨z, t0, t5⟩ := ht
  have hlt : k < s.size := by omega
  have b1 : k ≤ s.size := by omega
  have b2 : (k : Int) ≤ (s.size : Int) := by omega
  have b4 : (0 : Int) ≤ (k : Int) := by omega
  have p1 : (k : Int) + 1 ≤ (s.size : Int) := by omega
  have q1 : (0 : Int) ≤ (k : Int) + 1 := by omega
  have r1 : ((k : Int) + 1).toNat = k + 1 := by omega
  have w1 : IntKind.i64.wrap ((k : Int) + 1) = (k : Int) + 1 := IntWalk.i64_in _ (by omega)
  have p2 : (k : Int) + 2 ≤ (s.size : Int) := by omega
  have q2 : (0 : Int) ≤ (k : Int) + 2 := by omega
  have r2 : ((k : Int) + 2).toNat = k + 2 := by omega
  have w2 : IntKind.i64.wrap ((k : Int) + 2) = (k : Int) + 2 := IntWalk.i64_in _ (by omega)
  have l1 : (k : Int) + 1 < (s.size : Int) := by omega
  have l1n : k + 1 < s.size := by omega
  have u0 : IntKind.u8.wrap 0 = 0 := by decide
  have u1 : IntKind.u8.wrap 1 = 1 := by decide
  have u2 : IntKind.u8.wrap 2 = 2 := by decide
  have u3 : IntKind.u8.wrap 3 = 3 := by decide
  have u4 : IntKind.u8.wrap 4 = 4 := by decide
  have u5 : IntKind.u8.wrap 5 = 5 := by decide
  obtain ⟨x0, x1, x2, x3, x4, x5⟩ := hx
  conv => arg 2; whnf
  repeat (first | ((with_reducible refine wp_cond_true ?_ ?_); (focus (go_simp; done))) | ((with_reducible refine wp_cond_false ?_ ?_); (focus (go_simp; done))) | go_guarded | go_step)
  go_quiet (fail)
  repeat (first | ((with_reducible refine wp_cond_true ?_ ?_); (focus (go_simp; done))) | ((with_reducible refine wp_cond_false ?_ ?_); (focus (go_simp; done))) | go_guarded | go_step)
  refine ⟨?_, ?_, ?_, ?_⟩
  · simp [z]
  · intro h; simp [z]
  · intro h; simp [z]
  · intro h; simp [z]

set_option maxRecDepth 1000000 in
set_option maxHeartbeats 8000000 in
theorem chunk_03 (s : ByteArray) (k : Nat) (t : Array Value) (w : World) (Q : Exit → Act → World → Prop) (K : Act → World → Prop) (hs : s.size ≤ 1000) (hk : k + 2 ≤ s.size)
    (ht : ChunkT s k t) (h0 : ((s[k]'(by omega)).toNat : Int) = 48) (h1 : ((s[k + 1]'(by omega)).toNat : Int) = 51) (hx : Std0x w)
    (hQ : ∀ (t' : Array Value) (n : Nat), ChunkR (s.extract 0 k) 1038 (s.extract (k + 2) s.size) t' → Q .ret ⟨t', []⟩ (w.drewN n)) :
    chunkBody.wp Tryz.prog (Exit.then K Q) ⟨t, []⟩ w := by
  obtain ⟨z, t0, t5⟩ := ht
  have hlt : k < s.size := by omega
  have b1 : k ≤ s.size := by omega
  have b2 : (k : Int) ≤ (s.size : Int) := by omega
  have b4 : (0 : Int) ≤ (k : Int) := by omega
  have p1 : (k : Int) + 1 ≤ (s.size : Int) := by omega
  have q1 : (0 : Int) ≤ (k : Int) + 1 := by omega
  have r1 : ((k : Int) + 1).toNat = k + 1 := by omega
  have w1 : IntKind.i64.wrap ((k : Int) + 1) = (k : Int) + 1 := IntWalk.i64_in _ (by omega)
  have p2 : (k : Int) + 2 ≤ (s.size : Int) := by omega
  have q2 : (0 : Int) ≤ (k : Int) + 2 := by omega
  have r2 : ((k : Int) + 2).toNat = k + 2 := by omega
  have w2 : IntKind.i64.wrap ((k : Int) + 2) = (k : Int) + 2 := IntWalk.i64_in _ (by omega)
  have l1 : (k : Int) + 1 < (s.size : Int) := by omega
  have l1n : k + 1 < s.size := by omega
  have u0 : IntKind.u8.wrap 0 = 0 := by decide
  have u1 : IntKind.u8.wrap 1 = 1 := by decide
  have u2 : IntKind.u8.wrap 2 = 2 := by decide
  have u3 : IntKind.u8.wrap 3 = 3 := by decide
  have u4 : IntKind.u8.wrap 4 = 4 := by decide
  have u5 : IntKind.u8.wrap 5 = 5 := by decide
  obtain ⟨x0, x1, x2, x3, x4, x5⟩ := hx
  conv => arg 2; whnf
  repeat (first | ((with_reducible refine wp_cond_true ?_ ?_); (focus (go_simp; done))) | ((with_reducible refine wp_cond_false ?_ ?_); (focus (go_simp; done))) | go_guarded | go_step)
  go_quiet (fail)
  repeat (first | ((with_reducible refine wp_cond_true ?_ ?_); (focus (go_simp; done))) | ((with_reducible refine wp_cond_false ?_ ?_); (focus (go_simp; done))) | go_guarded | go_step)
  refine ⟨?_, ?_, ?_, ?_⟩
  · simp [z]
  · intro h; simp [z]
  · intro h; simp [z]
  · intro h; simp [z]

set_option maxRecDepth 1000000 in
set_option maxHeartbeats 8000000 in
theorem chunk_04 (s : ByteArray) (k : Nat) (t : Array Value) (w : World) (Q : Exit → Act → World → Prop) (K : Act → World → Prop) (hs : s.size ≤ 1000) (hk : k + 2 ≤ s.size)
    (ht : ChunkT s k t) (h0 : ((s[k]'(by omega)).toNat : Int) = 48) (h1 : ((s[k + 1]'(by omega)).toNat : Int) = 52) (hx : Std0x w)
    (hQ : ∀ (t' : Array Value) (n : Nat), ChunkR (s.extract 0 k) 1040 (s.extract (k + 2) s.size) t' → Q .ret ⟨t', []⟩ (w.drewN n)) :
    chunkBody.wp Tryz.prog (Exit.then K Q) ⟨t, []⟩ w := by
  obtain ⟨z, t0, t5⟩ := ht
  have hlt : k < s.size := by omega
  have b1 : k ≤ s.size := by omega
  have b2 : (k : Int) ≤ (s.size : Int) := by omega
  have b4 : (0 : Int) ≤ (k : Int) := by omega
  have p1 : (k : Int) + 1 ≤ (s.size : Int) := by omega
  have q1 : (0 : Int) ≤ (k : Int) + 1 := by omega
  have r1 : ((k : Int) + 1).toNat = k + 1 := by omega
  have w1 : IntKind.i64.wrap ((k : Int) + 1) = (k : Int) + 1 := IntWalk.i64_in _ (by omega)
  have p2 : (k : Int) + 2 ≤ (s.size : Int) := by omega
  have q2 : (0 : Int) ≤ (k : Int) + 2 := by omega
  have r2 : ((k : Int) + 2).toNat = k + 2 := by omega
  have w2 : IntKind.i64.wrap ((k : Int) + 2) = (k : Int) + 2 := IntWalk.i64_in _ (by omega)
  have l1 : (k : Int) + 1 < (s.size : Int) := by omega
  have l1n : k + 1 < s.size := by omega
  have u0 : IntKind.u8.wrap 0 = 0 := by decide
  have u1 : IntKind.u8.wrap 1 = 1 := by decide
  have u2 : IntKind.u8.wrap 2 = 2 := by decide
  have u3 : IntKind.u8.wrap 3 = 3 := by decide
  have u4 : IntKind.u8.wrap 4 = 4 := by decide
  have u5 : IntKind.u8.wrap 5 = 5 := by decide
  obtain ⟨x0, x1, x2, x3, x4, x5⟩ := hx
  conv => arg 2; whnf
  repeat (first | ((with_reducible refine wp_cond_true ?_ ?_); (focus (go_simp; done))) | ((with_reducible refine wp_cond_false ?_ ?_); (focus (go_simp; done))) | go_guarded | go_step)
  go_quiet (fail)
  repeat (first | ((with_reducible refine wp_cond_true ?_ ?_); (focus (go_simp; done))) | ((with_reducible refine wp_cond_false ?_ ?_); (focus (go_simp; done))) | go_guarded | go_step)
  refine ⟨?_, ?_, ?_, ?_⟩
  · simp [z]
  · intro h; simp [z]
  · intro h; simp [z]
  · intro h; simp [z]

set_option maxRecDepth 1000000 in
set_option maxHeartbeats 8000000 in
theorem chunk_05 (s : ByteArray) (k : Nat) (t : Array Value) (w : World) (Q : Exit → Act → World → Prop) (K : Act → World → Prop) (hs : s.size ≤ 1000) (hk : k + 2 ≤ s.size)
    (ht : ChunkT s k t) (h0 : ((s[k]'(by omega)).toNat : Int) = 48) (h1 : ((s[k + 1]'(by omega)).toNat : Int) = 53) (hx : Std0x w)
    (hQ : ∀ (t' : Array Value) (n : Nat), ChunkR (s.extract 0 k) 1042 (s.extract (k + 2) s.size) t' → Q .ret ⟨t', []⟩ (w.drewN n)) :
    chunkBody.wp Tryz.prog (Exit.then K Q) ⟨t, []⟩ w := by
  obtain ⟨z, t0, t5⟩ := ht
  have hlt : k < s.size := by omega
  have b1 : k ≤ s.size := by omega
  have b2 : (k : Int) ≤ (s.size : Int) := by omega
  have b4 : (0 : Int) ≤ (k : Int) := by omega
  have p1 : (k : Int) + 1 ≤ (s.size : Int) := by omega
  have q1 : (0 : Int) ≤ (k : Int) + 1 := by omega
  have r1 : ((k : Int) + 1).toNat = k + 1 := by omega
  have w1 : IntKind.i64.wrap ((k : Int) + 1) = (k : Int) + 1 := IntWalk.i64_in _ (by omega)
  have p2 : (k : Int) + 2 ≤ (s.size : Int) := by omega
  have q2 : (0 : Int) ≤ (k : Int) + 2 := by omega
  have r2 : ((k : Int) + 2).toNat = k + 2 := by omega
  have w2 : IntKind.i64.wrap ((k : Int) + 2) = (k : Int) + 2 := IntWalk.i64_in _ (by omega)
  have l1 : (k : Int) + 1 < (s.size : Int) := by omega
  have l1n : k + 1 < s.size := by omega
  have u0 : IntKind.u8.wrap 0 = 0 := by decide
  have u1 : IntKind.u8.wrap 1 = 1 := by decide
  have u2 : IntKind.u8.wrap 2 = 2 := by decide
  have u3 : IntKind.u8.wrap 3 = 3 := by decide
  have u4 : IntKind.u8.wrap 4 = 4 := by decide
  have u5 : IntKind.u8.wrap 5 = 5 := by decide
  obtain ⟨x0, x1, x2, x3, x4, x5⟩ := hx
  conv => arg 2; whnf
  repeat (first | ((with_reducible refine wp_cond_true ?_ ?_); (focus (go_simp; done))) | ((with_reducible refine wp_cond_false ?_ ?_); (focus (go_simp; done))) | go_guarded | go_step)
  go_quiet (fail)
  repeat (first | ((with_reducible refine wp_cond_true ?_ ?_); (focus (go_simp; done))) | ((with_reducible refine wp_cond_false ?_ ?_); (focus (go_simp; done))) | go_guarded | go_step)
  refine ⟨?_, ?_, ?_, ?_⟩
  · simp [z]
  · intro h; simp [z]
  · intro h; simp [z]
  · intro h; simp [z]

set_option maxRecDepth 1000000 in
set_option maxHeartbeats 8000000 in
theorem chunk_06 (s : ByteArray) (k : Nat) (t : Array Value) (w : World) (Q : Exit → Act → World → Prop) (K : Act → World → Prop) (hs : s.size ≤ 1000) (hk : k + 2 ≤ s.size)
    (ht : ChunkT s k t) (h0 : ((s[k]'(by omega)).toNat : Int) = 48) (h1 : ((s[k + 1]'(by omega)).toNat : Int) = 54) (hx : Std0x w)
    (hQ : ∀ (t' : Array Value) (n : Nat), ChunkR (s.extract 0 k) 276 (s.extract (k + 2) s.size) t' → Q .ret ⟨t', []⟩ (w.drewN n)) :
    chunkBody.wp Tryz.prog (Exit.then K Q) ⟨t, []⟩ w := by
  obtain ⟨z, t0, t5⟩ := ht
  have hlt : k < s.size := by omega
  have b1 : k ≤ s.size := by omega
  have b2 : (k : Int) ≤ (s.size : Int) := by omega
  have b4 : (0 : Int) ≤ (k : Int) := by omega
  have p1 : (k : Int) + 1 ≤ (s.size : Int) := by omega
  have q1 : (0 : Int) ≤ (k : Int) + 1 := by omega
  have r1 : ((k : Int) + 1).toNat = k + 1 := by omega
  have w1 : IntKind.i64.wrap ((k : Int) + 1) = (k : Int) + 1 := IntWalk.i64_in _ (by omega)
  have p2 : (k : Int) + 2 ≤ (s.size : Int) := by omega
  have q2 : (0 : Int) ≤ (k : Int) + 2 := by omega
  have r2 : ((k : Int) + 2).toNat = k + 2 := by omega
  have w2 : IntKind.i64.wrap ((k : Int) + 2) = (k : Int) + 2 := IntWalk.i64_in _ (by omega)
  have l1 : (k : Int) + 1 < (s.size : Int) := by omega
  have l1n : k + 1 < s.size := by omega
  have u0 : IntKind.u8.wrap 0 = 0 := by decide
  have u1 : IntKind.u8.wrap 1 = 1 := by decide
  have u2 : IntKind.u8.wrap 2 = 2 := by decide
  have u3 : IntKind.u8.wrap 3 = 3 := by decide
  have u4 : IntKind.u8.wrap 4 = 4 := by decide
  have u5 : IntKind.u8.wrap 5 = 5 := by decide
  obtain ⟨x0, x1, x2, x3, x4, x5⟩ := hx
  conv => arg 2; whnf
  repeat (first | ((with_reducible refine wp_cond_true ?_ ?_); (focus (go_simp; done))) | ((with_reducible refine wp_cond_false ?_ ?_); (focus (go_simp; done))) | go_guarded | go_step)
  go_quiet (fail)
  repeat (first | ((with_reducible refine wp_cond_true ?_ ?_); (focus (go_simp; done))) | ((with_reducible refine wp_cond_false ?_ ?_); (focus (go_simp; done))) | go_guarded | go_step)
  refine ⟨?_, ?_, ?_, ?_⟩
  · simp [z]
  · intro h; simp [z]
  · intro h; simp [z]
  · intro h; simp [z]

set_option maxRecDepth 1000000 in
set_option maxHeartbeats 8000000 in
theorem chunk_u2 (s : ByteArray) (k : Nat) (t : Array Value) (w : World) (Q : Exit → Act → World → Prop) (K : Act → World → Prop) (hs : s.size ≤ 1000) (hk : k + 2 ≤ s.size)
    (ht : ChunkT s k t) (h0 : ((s[k]'(by omega)).toNat : Int) = 95) (h1 : ((s[k + 1]'(by omega)).toNat : Int) = 50) (e : k + 5 ≤ s.size → ((s.extract (k + 1) (k + 5)).toList == [50, 48, 48, 54]) = false)
    (hQ : ∀ (t' : Array Value) (n : Nat), ChunkR (s.extract 0 k) 264 (s.extract (k + 2) s.size) t' → Q .ret ⟨t', []⟩ (w.drewN n)) :
    chunkBody.wp Tryz.prog (Exit.then K Q) ⟨t, []⟩ w := by
  obtain ⟨z, t0, t5⟩ := ht
  have hlt : k < s.size := by omega
  have b1 : k ≤ s.size := by omega
  have b2 : (k : Int) ≤ (s.size : Int) := by omega
  have b4 : (0 : Int) ≤ (k : Int) := by omega
  have p1 : (k : Int) + 1 ≤ (s.size : Int) := by omega
  have q1 : (0 : Int) ≤ (k : Int) + 1 := by omega
  have r1 : ((k : Int) + 1).toNat = k + 1 := by omega
  have w1 : IntKind.i64.wrap ((k : Int) + 1) = (k : Int) + 1 := IntWalk.i64_in _ (by omega)
  have p2 : (k : Int) + 2 ≤ (s.size : Int) := by omega
  have q2 : (0 : Int) ≤ (k : Int) + 2 := by omega
  have r2 : ((k : Int) + 2).toNat = k + 2 := by omega
  have w2 : IntKind.i64.wrap ((k : Int) + 2) = (k : Int) + 2 := IntWalk.i64_in _ (by omega)
  have l1 : (k : Int) + 1 < (s.size : Int) := by omega
  have l1n : k + 1 < s.size := by omega
  by_cases hb5 : k + 5 ≤ s.size
  · have p5 : (k : Int) + 5 ≤ (s.size : Int) := by omega
    have q5 : (0 : Int) ≤ (k : Int) + 5 := by omega
    have r5 : ((k : Int) + 5).toNat = k + 5 := by omega
    have w5 : IntKind.i64.wrap ((k : Int) + 5) = (k : Int) + 5 := IntWalk.i64_in _ (by omega)
    have e5 := e hb5
    conv => arg 2; whnf
    repeat (first | ((with_reducible refine wp_cond_true ?_ ?_); (focus (go_simp; done))) | ((with_reducible refine wp_cond_false ?_ ?_); (focus (go_simp; done))) | go_guarded | go_step)
    go_quiet (fail)
    repeat (first | ((with_reducible refine wp_cond_true ?_ ?_); (focus (go_simp; done))) | ((with_reducible refine wp_cond_false ?_ ?_); (focus (go_simp; done))) | go_guarded | go_step)
    refine ⟨?_, ?_, ?_, ?_⟩
    · simp [z]
    · intro h; simp [z]
    · intro h; simp [z]
    · intro h; simp [z]
  · have p5 : ¬ ((k : Int) + 5 ≤ (s.size : Int)) := by omega
    have p5' : (s.size : Int) < (k : Int) + 5 := by omega
    conv => arg 2; whnf
    repeat (first | ((with_reducible refine wp_cond_true ?_ ?_); (focus (go_simp; done))) | ((with_reducible refine wp_cond_false ?_ ?_); (focus (go_simp; done))) | go_guarded | go_step)
    go_quiet (fail)
    repeat (first | ((with_reducible refine wp_cond_true ?_ ?_); (focus (go_simp; done))) | ((with_reducible refine wp_cond_false ?_ ?_); (focus (go_simp; done))) | go_guarded | go_step)
    refine ⟨?_, ?_, ?_, ?_⟩
    · simp [z]
    · intro h; simp [z]
    · intro h; simp [z]
    · intro h; simp [z]

set_option maxRecDepth 1000000 in
set_option maxHeartbeats 8000000 in
theorem chunk_end (s : ByteArray) (t : Array Value) (w : World) (Q : Exit → Act → World → Prop) (K : Act → World → Prop) (hs : s.size ≤ 1000)
    (ht : ChunkT s s.size t)
    (hQ : ∀ t' : Array Value, ChunkT s s.size t' → Q (.exit 0) ⟨t', []⟩ w) :
    chunkBody.wp Tryz.prog (Exit.then K Q) ⟨t, []⟩ w := by
  obtain ⟨z, t0, t5⟩ := ht
  conv => arg 2; whnf
  repeat (first | ((with_reducible refine wp_cond_true ?_ ?_); (focus (go_simp; done))) | ((with_reducible refine wp_cond_false ?_ ?_); (focus (go_simp; done))) | go_guarded | go_step)
  refine ⟨?_, ?_, ?_⟩
  · simp [z]
  · intro h; simp [z, t0]
  · intro h; simp [z, t5]


end Go.Proofs.YtkcgngpoegglnaaGreatDoor
