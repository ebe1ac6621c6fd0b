/- The next element of a layout. · The rounds of the search for the next element of a layout. · The rounds of the search for the next element of a layout. -/
import Derived.LoopTactic
import Derived.Deep.QuietTactic
import Derived.BigQuiet
import Derived.Test.YtkcgngpoegglnaaGreatDoorM03
import Derived.Test.YtkcgngpoegglnaaGreatDoorM01
/- The next element of a layout. -/
section
namespace Go.Proofs.YtkcgngpoegglnaaGreatDoor
open Go Go.RowKit
set_option linter.unusedVariables false
set_option linter.unusedSimpArgs false

noncomputable def chunkBody : Code := ((Tryz.f115.body.bind firstLoop).getD .skip)

/-- the frame at the head of a round. -/
structure ChunkT (s : ByteArray) (k : Nat) (t : Array Value) : Prop where
  z : t.size = 654
  t0 : ∀ h : 0 < t.size, t[0]'h = .string s
  t5 : ∀ h : 5 < t.size, t[5]'h = .int .i64 k

/-- the frame where an element has been found. -/
structure ChunkR (p : ByteArray) (std : Int) (r : ByteArray) (t : Array Value) : Prop where
  z : t.size = 654
  t2 : ∀ h : 2 < t.size, t[2]'h = .string p
  t3 : ∀ h : 3 < t.size, t[3]'h = .int .i64 std
  t4 : ∀ h : 4 < t.size, t[4]'h = .string r

set_option maxRecDepth 1000000 in
set_option maxHeartbeats 4000000 in
theorem chunk_plain (s : ByteArray) (k : Nat) (t : Array Value) (w : World) (Q : Exit → Act → World → Prop) (K : Act → World → Prop) (c : Int) (hs : s.size ≤ 1000) (hk : k < s.size)
    (ht : ChunkT s k t) (hc : ((s[k]).toNat : Int) = c) (c0 : 0 ≤ c) (c1 : c < 256)
    (n74 : (c == 74) = false) (n77 : (c == 77) = false) (n48 : (c == 48) = false) (n49 : (c == 49) = false) (n50 : (c == 50) = false) (n95 : (c == 95) = false) (n51 : (c == 51) = false) (n52 : (c == 52) = false) (n53 : (c == 53) = false) (n80 : (c == 80) = false) (n112 : (c == 112) = false) (n45 : (c == 45) = false) (n90 : (c == 90) = false) (n46 : (c == 46) = false) (n44 : (c == 44) = false)
    (hK : ∀ t' : Array Value, ChunkT s (k + 1) t' → K ⟨t', []⟩ w) :
    chunkBody.wp Tryz.prog (Exit.then K Q) ⟨t, []⟩ w := by
  obtain ⟨z, t0, t5⟩ := ht
  conv => arg 2; whnf
  repeat (first | ((with_reducible refine wp_cond_true ?_ ?_); (focus (go_simp; done))) | ((with_reducible refine wp_cond_false ?_ ?_); (focus (go_simp; done))) | go_guarded | go_step)
  refine ⟨?_, ?_, ?_⟩
  · simp [z]
  · intro h; simp [z, t0]
  · intro h; simp [z, t5]

/-- a text does not begin with a small letter. -/
def LowNo (s : ByteArray) : Prop := s.size = 0 ∨ ∃ h : 0 < s.size, ((s[0]'h).toNat : Int) < 97

theorem swlc_no (s : ByteArray) (w : World) (h : LowNo s) : Calls Tryz.prog 126 #[.string s] w fun e w' => e = .returned (.bool false) ∧ w = w' := by
  rcases h with h | ⟨h0, h⟩
  · have h' : ((s.size : Int) == 0) = true := beq_iff_eq.mpr (by omega)
    go_enter Tryz.func126, Tryz.ntmps126
    go_wp2
    go_ret
    exact ⟨rfl, rfl⟩
  · have h' : ((s.size : Int) == 0) = false := beq_eq_false_iff_ne.mpr (by omega)
    have h2 : ¬ (97 ≤ ((s[0]'h0).toNat : Int)) := by omega
    go_enter Tryz.func126, Tryz.ntmps126
    go_wp2
    go_ret
    exact ⟨rfl, rfl⟩

/-- the table of the elements that begin with a zero. -/
def Std0x (w : World) : Prop := w.cell? ⟨1, 0, none⟩ = some (.int .i64 260) ∧ w.cell? ⟨1, 1, none⟩ = some (.int .i64 265) ∧ w.cell? ⟨1, 2, none⟩ = some (.int .i64 1038) ∧ w.cell? ⟨1, 3, none⟩ = some (.int .i64 1040) ∧ w.cell? ⟨1, 4, none⟩ = some (.int .i64 1042) ∧ w.cell? ⟨1, 5, none⟩ = some (.int .i64 276)

end Go.Proofs.YtkcgngpoegglnaaGreatDoor
end
/- The rounds of the search for the next element of a layout. -/
section
namespace Go.Proofs.YtkcgngpoegglnaaGreatDoor
open Go Go.RowKit
set_option linter.unusedVariables false
set_option linter.unusedSimpArgs false

set_option maxRecDepth 1000000 in
set_option maxHeartbeats 8000000 in
theorem chunk_January (s : ByteArray) (k : Nat) (t : Array Value) (w : World) (Q : Exit → Act → World → Prop) (K : Act → World → Prop) (hs : s.size ≤ 1000) (hk : k + 7 ≤ s.size)
    (ht : ChunkT s k t) (h0 : ((s[k]'(by omega)).toNat : Int) = 74) (e3 : ((s.extract k (k + 3)).toList == [74, 97, 110]) = true) (e7 : ((s.extract k (k + 7)).toList == [74, 97, 110, 117, 97, 114, 121]) = true)
    (hQ : ∀ (t' : Array Value) (n : Nat), ChunkR (s.extract 0 k) 257 (s.extract (k + 7) s.size) t' → Q .ret ⟨t', []⟩ (w.drewN n)) :
    chunkBody.wp Tryz.prog (Exit.then K Q) ⟨t, []⟩ w := by
  obtain ⟨z, t0, t5⟩ := ht
  have hlt : k < s.size := by omega
  have b1 : k ≤ s.size := by omega
  have b2 : (k : Int) ≤ (s.size : Int) := by omega
  have b4 : (0 : Int) ≤ (k : Int) := by omega
  have p3 : (k : Int) + 3 ≤ (s.size : Int) := by omega
  have q3 : (0 : Int) ≤ (k : Int) + 3 := by omega
  have r3 : ((k : Int) + 3).toNat = k + 3 := by omega
  have w3 : IntKind.i64.wrap ((k : Int) + 3) = (k : Int) + 3 := IntWalk.i64_in _ (by omega)
  have p7 : (k : Int) + 7 ≤ (s.size : Int) := by omega
  have q7 : (0 : Int) ≤ (k : Int) + 7 := by omega
  have r7 : ((k : Int) + 7).toNat = k + 7 := by omega
  have w7 : IntKind.i64.wrap ((k : Int) + 7) = (k : Int) + 7 := IntWalk.i64_in _ (by omega)
  have l3 : (k : Int) + 3 < (s.size : Int) := by omega
  have l3n : k + 3 < s.size := by omega
  conv => arg 2; whnf
  repeat (first | ((with_reducible refine wp_cond_true ?_ ?_); (focus (go_simp; done))) | ((with_reducible refine wp_cond_false ?_ ?_); (focus (go_simp; done))) | go_guarded | go_step)
  go_quiet (fail)
  repeat (first | ((with_reducible refine wp_cond_true ?_ ?_); (focus (go_simp; done))) | ((with_reducible refine wp_cond_false ?_ ?_); (focus (go_simp; done))) | go_guarded | go_step)
  refine ⟨?_, ?_, ?_, ?_⟩
  · simp [z]
  · intro h; simp [z]
  · intro h; simp [z]
  · intro h; simp [z]

set_option maxRecDepth 1000000 in
set_option maxHeartbeats 8000000 in
theorem chunk_Jan (s : ByteArray) (k : Nat) (t : Array Value) (w : World) (Q : Exit → Act → World → Prop) (K : Act → World → Prop) (hs : s.size ≤ 1000) (hk : k + 3 ≤ s.size)
    (ht : ChunkT s k t) (h0 : ((s[k]'(by omega)).toNat : Int) = 74) (e3 : ((s.extract k (k + 3)).toList == [74, 97, 110]) = true) (e : k + 7 ≤ s.size → ((s.extract k (k + 7)).toList == [74, 97, 110, 117, 97, 114, 121]) = false) (hlow : LowNo (s.extract (k + 3) s.size))
    (hQ : ∀ (t' : Array Value) (n : Nat), ChunkR (s.extract 0 k) 258 (s.extract (k + 3) s.size) t' → Q .ret ⟨t', []⟩ (w.drewN n)) :
    chunkBody.wp Tryz.prog (Exit.then K Q) ⟨t, []⟩ w := by
  obtain ⟨z, t0, t5⟩ := ht
  have hlt : k < s.size := by omega
  have b1 : k ≤ s.size := by omega
  have b2 : (k : Int) ≤ (s.size : Int) := by omega
  have b4 : (0 : Int) ≤ (k : Int) := by omega
  have p3 : (k : Int) + 3 ≤ (s.size : Int) := by omega
  have q3 : (0 : Int) ≤ (k : Int) + 3 := by omega
  have r3 : ((k : Int) + 3).toNat = k + 3 := by omega
  have w3 : IntKind.i64.wrap ((k : Int) + 3) = (k : Int) + 3 := IntWalk.i64_in _ (by omega)
  by_cases hb7 : k + 7 ≤ s.size
  · have p7 : (k : Int) + 7 ≤ (s.size : Int) := by omega
    have q7 : (0 : Int) ≤ (k : Int) + 7 := by omega
    have r7 : ((k : Int) + 7).toNat = k + 7 := by omega
    have w7 : IntKind.i64.wrap ((k : Int) + 7) = (k : Int) + 7 := IntWalk.i64_in _ (by omega)
    have e7 := e hb7
    conv => arg 2; whnf
    repeat (first | ((with_reducible refine wp_cond_true ?_ ?_); (focus (go_simp; done))) | ((with_reducible refine wp_cond_false ?_ ?_); (focus (go_simp; done))) | (go_at_call 126; refine (swlc_no _ _ hlow).mono ?_; rintro e w' ⟨rfl, rfl⟩; dsimp only) | go_guarded | go_step)
    go_quiet (fail)
    repeat (first | ((with_reducible refine wp_cond_true ?_ ?_); (focus (go_simp; done))) | ((with_reducible refine wp_cond_false ?_ ?_); (focus (go_simp; done))) | (go_at_call 126; refine (swlc_no _ _ hlow).mono ?_; rintro e w' ⟨rfl, rfl⟩; dsimp only) | go_guarded | go_step)
    refine ⟨?_, ?_, ?_, ?_⟩
    · simp [z]
    · intro h; simp [z]
    · intro h; simp [z]
    · intro h; simp [z]
  · have p7 : ¬ ((k : Int) + 7 ≤ (s.size : Int)) := by omega
    have p7' : (s.size : Int) < (k : Int) + 7 := by omega
    conv => arg 2; whnf
    repeat (first | ((with_reducible refine wp_cond_true ?_ ?_); (focus (go_simp; done))) | ((with_reducible refine wp_cond_false ?_ ?_); (focus (go_simp; done))) | (go_at_call 126; refine (swlc_no _ _ hlow).mono ?_; rintro e w' ⟨rfl, rfl⟩; dsimp only) | go_guarded | go_step)
    go_quiet (fail)
    repeat (first | ((with_reducible refine wp_cond_true ?_ ?_); (focus (go_simp; done))) | ((with_reducible refine wp_cond_false ?_ ?_); (focus (go_simp; done))) | (go_at_call 126; refine (swlc_no _ _ hlow).mono ?_; rintro e w' ⟨rfl, rfl⟩; dsimp only) | go_guarded | go_step)
    refine ⟨?_, ?_, ?_, ?_⟩
    · simp [z]
    · intro h; simp [z]
    · intro h; simp [z]
    · intro h; simp [z]

set_option maxRecDepth 1000000 in
set_option maxHeartbeats 8000000 in
theorem chunk_Monday (s : ByteArray) (k : Nat) (t : Array Value) (w : World) (Q : Exit → Act → World → Prop) (K : Act → World → Prop) (hs : s.size ≤ 1000) (hk : k + 6 ≤ s.size)
    (ht : ChunkT s k t) (h0 : ((s[k]'(by omega)).toNat : Int) = 77) (e3 : ((s.extract k (k + 3)).toList == [77, 111, 110]) = true) (e6 : ((s.extract k (k + 6)).toList == [77, 111, 110, 100, 97, 121]) = true)
    (hQ : ∀ (t' : Array Value) (n : Nat), ChunkR (s.extract 0 k) 261 (s.extract (k + 6) s.size) t' → Q .ret ⟨t', []⟩ (w.drewN n)) :
    chunkBody.wp Tryz.prog (Exit.then K Q) ⟨t, []⟩ w := by
  obtain ⟨z, t0, t5⟩ := ht
  have hlt : k < s.size := by omega
  have b1 : k ≤ s.size := by omega
  have b2 : (k : Int) ≤ (s.size : Int) := by omega
  have b4 : (0 : Int) ≤ (k : Int) := by omega
  have p3 : (k : Int) + 3 ≤ (s.size : Int) := by omega
  have q3 : (0 : Int) ≤ (k : Int) + 3 := by omega
  have r3 : ((k : Int) + 3).toNat = k + 3 := by omega
  have w3 : IntKind.i64.wrap ((k : Int) + 3) = (k : Int) + 3 := IntWalk.i64_in _ (by omega)
  have p6 : (k : Int) + 6 ≤ (s.size : Int) := by omega
  have q6 : (0 : Int) ≤ (k : Int) + 6 := by omega
  have r6 : ((k : Int) + 6).toNat = k + 6 := by omega
  have w6 : IntKind.i64.wrap ((k : Int) + 6) = (k : Int) + 6 := IntWalk.i64_in _ (by omega)
  have l3 : (k : Int) + 3 < (s.size : Int) := by omega
  have l3n : k + 3 < s.size := by omega
  conv => arg 2; whnf
  repeat (first | ((with_reducible refine wp_cond_true ?_ ?_); (focus (go_simp; done))) | ((with_reducible refine wp_cond_false ?_ ?_); (focus (go_simp; done))) | go_guarded | go_step)
  go_quiet (fail)
  repeat (first | ((with_reducible refine wp_cond_true ?_ ?_); (focus (go_simp; done))) | ((with_reducible refine wp_cond_false ?_ ?_); (focus (go_simp; done))) | go_guarded | go_step)
  refine ⟨?_, ?_, ?_, ?_⟩
  · simp [z]
  · intro h; simp [z]
  · intro h; simp [z]
  · intro h; simp [z]

set_option maxRecDepth 1000000 in
set_option maxHeartbeats 8000000 in
theorem chunk_Mon (s : ByteArray) (k : Nat) (t : Array Value) (w : World) (Q : Exit → Act → World → Prop) (K : Act → World → Prop) (hs : s.size ≤ 1000) (hk : k + 3 ≤ s.size)
    (ht : ChunkT s k t) (h0 : ((s[k]'(by omega)).toNat : Int) = 77) (e3 : ((s.extract k (k + 3)).toList == [77, 111, 110]) = true) (e : k + 6 ≤ s.size → ((s.extract k (k + 6)).toList == [77, 111, 110, 100, 97, 121]) = false) (hlow : LowNo (s.extract (k + 3) s.size))
    (hQ : ∀ (t' : Array Value) (n : Nat), ChunkR (s.extract 0 k) 262 (s.extract (k + 3) s.size) t' → Q .ret ⟨t', []⟩ (w.drewN n)) :
    chunkBody.wp Tryz.prog (Exit.then K Q) ⟨t, []⟩ w := by
  obtain ⟨z, t0, t5⟩ := ht
  have hlt : k < s.size := by omega
  have b1 : k ≤ s.size := by omega
  have b2 : (k : Int) ≤ (s.size : Int) := by omega
  have b4 : (0 : Int) ≤ (k : Int) := by omega
  have p3 : (k : Int) + 3 ≤ (s.size : Int) := by omega
  have q3 : (0 : Int) ≤ (k : Int) + 3 := by omega
  have r3 : ((k : Int) + 3).toNat = k + 3 := by omega
  have w3 : IntKind.i64.wrap ((k : Int) + 3) = (k : Int) + 3 := IntWalk.i64_in _ (by omega)
  by_cases hb6 : k + 6 ≤ s.size
  · have p6 : (k : Int) + 6 ≤ (s.size : Int) := by omega
    have q6 : (0 : Int) ≤ (k : Int) + 6 := by omega
    have r6 : ((k : Int) + 6).toNat = k + 6 := by omega
    have w6 : IntKind.i64.wrap ((k : Int) + 6) = (k : Int) + 6 := IntWalk.i64_in _ (by omega)
    have e6 := e hb6
    conv => arg 2; whnf
    repeat (first | ((with_reducible refine wp_cond_true ?_ ?_); (focus (go_simp; done))) | ((with_reducible refine wp_cond_false ?_ ?_); (focus (go_simp; done))) | (go_at_call 126; refine (swlc_no _ _ hlow).mono ?_; rintro e w' ⟨rfl, rfl⟩; dsimp only) | go_guarded | go_step)
    go_quiet (fail)
    repeat (first | ((with_reducible refine wp_cond_true ?_ ?_); (focus (go_simp; done))) | ((with_reducible refine wp_cond_false ?_ ?_); (focus (go_simp; done))) | (go_at_call 126; refine (swlc_no _ _ hlow).mono ?_; rintro e w' ⟨rfl, rfl⟩; dsimp only) | go_guarded | go_step)
    refine ⟨?_, ?_, ?_, ?_⟩
    · simp [z]
    · intro h; simp [z]
    · intro h; simp [z]
    · intro h; simp [z]
  · have p6 : ¬ ((k : Int) + 6 ≤ (s.size : Int)) := by omega
    have p6' : (s.size : Int) < (k : Int) + 6 := by omega
    conv => arg 2; whnf
    repeat (first | ((with_reducible refine wp_cond_true ?_ ?_); (focus (go_simp; done))) | ((with_reducible refine wp_cond_false ?_ ?_); (focus (go_simp; done))) | (go_at_call 126; refine (swlc_no _ _ hlow).mono ?_; rintro e w' ⟨rfl, rfl⟩; dsimp only) | go_guarded | go_step)
    go_quiet (fail)
    repeat (first | ((with_reducible refine wp_cond_true ?_ ?_); (focus (go_simp; done))) | ((with_reducible refine wp_cond_false ?_ ?_); (focus (go_simp; done))) | (go_at_call 126; refine (swlc_no _ _ hlow).mono ?_; rintro e w' ⟨rfl, rfl⟩; dsimp only) | go_guarded | go_step)
    refine ⟨?_, ?_, ?_, ?_⟩
    · simp [z]
    · intro h; simp [z]
    · intro h; simp [z]
    · intro h; simp [z]

set_option maxRecDepth 1000000 in
set_option maxHeartbeats 8000000 in
theorem chunk_MST (s : ByteArray) (k : Nat) (t : Array Value) (w : World) (Q : Exit → Act → World → Prop) (K : Act → World → Prop) (hs : s.size ≤ 1000) (hk : k + 3 ≤ s.size)
    (ht : ChunkT s k t) (h0 : ((s[k]'(by omega)).toNat : Int) = 77) (e3 : ((s.extract k (k + 3)).toList == [77, 111, 110]) = false) (f3 : ((s.extract k (k + 3)).toList == [77, 83, 84]) = true)
    (hQ : ∀ (t' : Array Value) (n : Nat), ChunkR (s.extract 0 k) 23 (s.extract (k + 3) s.size) t' → Q .ret ⟨t', []⟩ (w.drewN n)) :
    chunkBody.wp Tryz.prog (Exit.then K Q) ⟨t, []⟩ w := by
  obtain ⟨z, t0, t5⟩ := ht
  have hlt : k < s.size := by omega
  have b1 : k ≤ s.size := by omega
  have b2 : (k : Int) ≤ (s.size : Int) := by omega
  have b4 : (0 : Int) ≤ (k : Int) := by omega
  have p3 : (k : Int) + 3 ≤ (s.size : Int) := by omega
  have q3 : (0 : Int) ≤ (k : Int) + 3 := by omega
  have r3 : ((k : Int) + 3).toNat = k + 3 := by omega
  have w3 : IntKind.i64.wrap ((k : Int) + 3) = (k : Int) + 3 := IntWalk.i64_in _ (by omega)
  conv => arg 2; whnf
  repeat (first | ((with_reducible refine wp_cond_true ?_ ?_); (focus (go_simp; done))) | ((with_reducible refine wp_cond_false ?_ ?_); (focus (go_simp; done))) | go_guarded | go_step)
  go_quiet (fail)
  repeat (first | ((with_reducible refine wp_cond_true ?_ ?_); (focus (go_simp; done))) | ((with_reducible refine wp_cond_false ?_ ?_); (focus (go_simp; done))) | go_guarded | go_step)
  refine ⟨?_, ?_, ?_, ?_⟩
  · simp [z]
  · intro h; simp [z]
  · intro h; simp [z]
  · intro h; simp [z]

set_option maxRecDepth 1000000 in
set_option maxHeartbeats 8000000 in
theorem chunk_zone (s : ByteArray) (k : Nat) (t : Array Value) (w : World) (Q : Exit → Act → World → Prop) (K : Act → World → Prop) (hs : s.size ≤ 1000) (hk : k + 5 ≤ s.size)
    (ht : ChunkT s k t) (h0 : ((s[k]'(by omega)).toNat : Int) = 45) (e : k + 7 ≤ s.size → ((s.extract k (k + 7)).toList == [45, 48, 55, 48, 48, 48, 48]) = false) (f : k + 9 ≤ s.size → ((s.extract k (k + 9)).toList == [45, 48, 55, 58, 48, 48, 58, 48, 48]) = false) (g5 : ((s.extract k (k + 5)).toList == [45, 48, 55, 48, 48]) = true)
    (hQ : ∀ (t' : Array Value) (n : Nat), ChunkR (s.extract 0 k) 29 (s.extract (k + 5) s.size) t' → Q .ret ⟨t', []⟩ (w.drewN n)) :
    chunkBody.wp Tryz.prog (Exit.then K Q) ⟨t, []⟩ w := by
  obtain ⟨z, t0, t5⟩ := ht
  have hlt : k < s.size := by omega
  have b1 : k ≤ s.size := by omega
  have b2 : (k : Int) ≤ (s.size : Int) := by omega
  have b4 : (0 : Int) ≤ (k : Int) := by omega
  have p5 : (k : Int) + 5 ≤ (s.size : Int) := by omega
  have q5 : (0 : Int) ≤ (k : Int) + 5 := by omega
  have r5 : ((k : Int) + 5).toNat = k + 5 := by omega
  have w5 : IntKind.i64.wrap ((k : Int) + 5) = (k : Int) + 5 := IntWalk.i64_in _ (by omega)
  by_cases hb9 : k + 9 ≤ s.size
  · have p9 : (k : Int) + 9 ≤ (s.size : Int) := by omega
    have q9 : (0 : Int) ≤ (k : Int) + 9 := by omega
    have r9 : ((k : Int) + 9).toNat = k + 9 := by omega
    have w9 : IntKind.i64.wrap ((k : Int) + 9) = (k : Int) + 9 := IntWalk.i64_in _ (by omega)
    have f9 := f hb9
    have hb7 : k + 7 ≤ s.size := by omega
    have p7 : (k : Int) + 7 ≤ (s.size : Int) := by omega
    have q7 : (0 : Int) ≤ (k : Int) + 7 := by omega
    have r7 : ((k : Int) + 7).toNat = k + 7 := by omega
    have w7 : IntKind.i64.wrap ((k : Int) + 7) = (k : Int) + 7 := IntWalk.i64_in _ (by omega)
    have e7 := e hb7
    conv => arg 2; whnf
    repeat (first | ((with_reducible refine wp_cond_true ?_ ?_); (focus (go_simp; done))) | ((with_reducible refine wp_cond_false ?_ ?_); (focus (go_simp; done))) | go_guarded | go_step)
    go_quiet (fail)
    repeat (first | ((with_reducible refine wp_cond_true ?_ ?_); (focus (go_simp; done))) | ((with_reducible refine wp_cond_false ?_ ?_); (focus (go_simp; done))) | go_guarded | go_step)
    refine ⟨?_, ?_, ?_, ?_⟩
    · simp [z]
    · intro h; simp [z]
    · intro h; simp [z]
    · intro h; simp [z]
  · have p9 : ¬ ((k : Int) + 9 ≤ (s.size : Int)) := by omega
    have p9' : (s.size : Int) < (k : Int) + 9 := by omega
    by_cases hb7 : k + 7 ≤ s.size
    · have p7 : (k : Int) + 7 ≤ (s.size : Int) := by omega
      have q7 : (0 : Int) ≤ (k : Int) + 7 := by omega
      have r7 : ((k : Int) + 7).toNat = k + 7 := by omega
      have w7 : IntKind.i64.wrap ((k : Int) + 7) = (k : Int) + 7 := IntWalk.i64_in _ (by omega)
      have e7 := e hb7
      conv => arg 2; whnf
      repeat (first | ((with_reducible refine wp_cond_true ?_ ?_); (focus (go_simp; done))) | ((with_reducible refine wp_cond_false ?_ ?_); (focus (go_simp; done))) | go_guarded | go_step)
      go_quiet (fail)
      repeat (first | ((with_reducible refine wp_cond_true ?_ ?_); (focus (go_simp; done))) | ((with_reducible refine wp_cond_false ?_ ?_); (focus (go_simp; done))) | go_guarded | go_step)
      refine ⟨?_, ?_, ?_, ?_⟩
      · simp [z]
      · intro h; simp [z]
      · intro h; simp [z]
      · intro h; simp [z]
    · have p7 : ¬ ((k : Int) + 7 ≤ (s.size : Int)) := by omega
      have p7' : (s.size : Int) < (k : Int) + 7 := by omega
      conv => arg 2; whnf
      repeat (first | ((with_reducible refine wp_cond_true ?_ ?_); (focus (go_simp; done))) | ((with_reducible refine wp_cond_false ?_ ?_); (focus (go_simp; done))) | go_guarded | go_step)
      go_quiet (fail)
      repeat (first | ((with_reducible refine wp_cond_true ?_ ?_); (focus (go_simp; done))) | ((with_reducible refine wp_cond_false ?_ ?_); (focus (go_simp; done))) | go_guarded | go_step)
      refine ⟨?_, ?_, ?_, ?_⟩
      · simp [z]
      · intro h; simp [z]
      · intro h; simp [z]
      · intro h; simp [z]


end Go.Proofs.YtkcgngpoegglnaaGreatDoor
end
/- The rounds of the search for the next element of a layout. -/
section
namespace Go.Proofs.YtkcgngpoegglnaaGreatDoor
open Go Go.RowKit
set_option linter.unusedVariables false
set_option linter.unusedSimpArgs false

set_option maxRecDepth 1000000 in
set_option maxHeartbeats 8000000 in
theorem chunk_dash (s : ByteArray) (k : Nat) (t : Array Value) (w : World) (Q : Exit → Act → World → Prop) (K : Act → World → Prop) (hs : s.size ≤ 1000) (hk : k < s.size)
    (ht : ChunkT s k t) (h0 : ((s[k]'(by omega)).toNat : Int) = 45) (e7 : k + 7 ≤ s.size → ((s.extract k (k + 7)).toList == [45, 48, 55, 48, 48, 48, 48]) = false) (e9 : k + 9 ≤ s.size → ((s.extract k (k + 9)).toList == [45, 48, 55, 58, 48, 48, 58, 48, 48]) = false) (e5 : k + 5 ≤ s.size → ((s.extract k (k + 5)).toList == [45, 48, 55, 48, 48]) = false) (e6 : k + 6 ≤ s.size → ((s.extract k (k + 6)).toList == [45, 48, 55, 58, 48, 48]) = false) (e3 : k + 3 ≤ s.size → ((s.extract k (k + 3)).toList == [45, 48, 55]) = false)
    (hK : ∀ t' : Array Value, ChunkT s (k + 1) t' → K ⟨t', []⟩ w) :
    chunkBody.wp Tryz.prog (Exit.then K Q) ⟨t, []⟩ w := by
  obtain ⟨z, t0, t5⟩ := ht
  have hlt : k < s.size := by omega
  have b1 : k ≤ s.size := by omega
  have b2 : (k : Int) ≤ (s.size : Int) := by omega
  have b4 : (0 : Int) ≤ (k : Int) := by omega
  by_cases hb9 : k + 9 ≤ s.size
  · skip
    have p9 : (k : Int) + 9 ≤ (s.size : Int) := by omega
    have q9 : (0 : Int) ≤ (k : Int) + 9 := by omega
    have r9 : ((k : Int) + 9).toNat = k + 9 := by omega
    have w9 : IntKind.i64.wrap ((k : Int) + 9) = (k : Int) + 9 := IntWalk.i64_in _ (by omega)
    have f9 := e9 (by omega)
    have p7 : (k : Int) + 7 ≤ (s.size : Int) := by omega
    have q7 : (0 : Int) ≤ (k : Int) + 7 := by omega
    have r7 : ((k : Int) + 7).toNat = k + 7 := by omega
    have w7 : IntKind.i64.wrap ((k : Int) + 7) = (k : Int) + 7 := IntWalk.i64_in _ (by omega)
    have f7 := e7 (by omega)
    have p6 : (k : Int) + 6 ≤ (s.size : Int) := by omega
    have q6 : (0 : Int) ≤ (k : Int) + 6 := by omega
    have r6 : ((k : Int) + 6).toNat = k + 6 := by omega
    have w6 : IntKind.i64.wrap ((k : Int) + 6) = (k : Int) + 6 := IntWalk.i64_in _ (by omega)
    have f6 := e6 (by omega)
    have p5 : (k : Int) + 5 ≤ (s.size : Int) := by omega
    have q5 : (0 : Int) ≤ (k : Int) + 5 := by omega
    have r5 : ((k : Int) + 5).toNat = k + 5 := by omega
    have w5 : IntKind.i64.wrap ((k : Int) + 5) = (k : Int) + 5 := IntWalk.i64_in _ (by omega)
    have f5 := e5 (by omega)
    have p3 : (k : Int) + 3 ≤ (s.size : Int) := by omega
    have q3 : (0 : Int) ≤ (k : Int) + 3 := by omega
    have r3 : ((k : Int) + 3).toNat = k + 3 := by omega
    have w3 : IntKind.i64.wrap ((k : Int) + 3) = (k : Int) + 3 := IntWalk.i64_in _ (by omega)
    have f3 := e3 (by omega)
    conv => arg 2; whnf
    repeat (first | ((with_reducible refine wp_cond_true ?_ ?_); (focus (go_simp; done))) | ((with_reducible refine wp_cond_false ?_ ?_); (focus (go_simp; done))) | go_guarded | go_step)
    refine ⟨?_, ?_, ?_⟩
    · simp [z]
    · intro h; simp [z, t0]
    · intro h; simp [z]
  · have p9 : ¬ ((k : Int) + 9 ≤ (s.size : Int)) := by omega
    have p9' : (s.size : Int) < (k : Int) + 9 := by omega
    by_cases hb7 : k + 7 ≤ s.size
    · skip
      have p7 : (k : Int) + 7 ≤ (s.size : Int) := by omega
      have q7 : (0 : Int) ≤ (k : Int) + 7 := by omega
      have r7 : ((k : Int) + 7).toNat = k + 7 := by omega
      have w7 : IntKind.i64.wrap ((k : Int) + 7) = (k : Int) + 7 := IntWalk.i64_in _ (by omega)
      have f7 := e7 (by omega)
      have p6 : (k : Int) + 6 ≤ (s.size : Int) := by omega
      have q6 : (0 : Int) ≤ (k : Int) + 6 := by omega
      have r6 : ((k : Int) + 6).toNat = k + 6 := by omega
      have w6 : IntKind.i64.wrap ((k : Int) + 6) = (k : Int) + 6 := IntWalk.i64_in _ (by omega)
      have f6 := e6 (by omega)
      have p5 : (k : Int) + 5 ≤ (s.size : Int) := by omega
      have q5 : (0 : Int) ≤ (k : Int) + 5 := by omega
      have r5 : ((k : Int) + 5).toNat = k + 5 := by omega
      have w5 : IntKind.i64.wrap ((k : Int) + 5) = (k : Int) + 5 := IntWalk.i64_in _ (by omega)
      have f5 := e5 (by omega)
      have p3 : (k : Int) + 3 ≤ (s.size : Int) := by omega
      have q3 : (0 : Int) ≤ (k : Int) + 3 := by omega
      have r3 : ((k : Int) + 3).toNat = k + 3 := by omega
      have w3 : IntKind.i64.wrap ((k : Int) + 3) = (k : Int) + 3 := IntWalk.i64_in _ (by omega)
      have f3 := e3 (by omega)
      conv => arg 2; whnf
      repeat (first | ((with_reducible refine wp_cond_true ?_ ?_); (focus (go_simp; done))) | ((with_reducible refine wp_cond_false ?_ ?_); (focus (go_simp; done))) | go_guarded | go_step)
      refine ⟨?_, ?_, ?_⟩
      · simp [z]
      · intro h; simp [z, t0]
      · intro h; simp [z]
    · have p7 : ¬ ((k : Int) + 7 ≤ (s.size : Int)) := by omega
      have p7' : (s.size : Int) < (k : Int) + 7 := by omega
      by_cases hb6 : k + 6 ≤ s.size
      · skip
        have p6 : (k : Int) + 6 ≤ (s.size : Int) := by omega
        have q6 : (0 : Int) ≤ (k : Int) + 6 := by omega
        have r6 : ((k : Int) + 6).toNat = k + 6 := by omega
        have w6 : IntKind.i64.wrap ((k : Int) + 6) = (k : Int) + 6 := IntWalk.i64_in _ (by omega)
        have f6 := e6 (by omega)
        have p5 : (k : Int) + 5 ≤ (s.size : Int) := by omega
        have q5 : (0 : Int) ≤ (k : Int) + 5 := by omega
        have r5 : ((k : Int) + 5).toNat = k + 5 := by omega
        have w5 : IntKind.i64.wrap ((k : Int) + 5) = (k : Int) + 5 := IntWalk.i64_in _ (by omega)
        have f5 := e5 (by omega)
        have p3 : (k : Int) + 3 ≤ (s.size : Int) := by omega
        have q3 : (0 : Int) ≤ (k : Int) + 3 := by omega
        have r3 : ((k : Int) + 3).toNat = k + 3 := by omega
        have w3 : IntKind.i64.wrap ((k : Int) + 3) = (k : Int) + 3 := IntWalk.i64_in _ (by omega)
        have f3 := e3 (by omega)
        conv => arg 2; whnf
        repeat (first | ((with_reducible refine wp_cond_true ?_ ?_); (focus (go_simp; done))) | ((with_reducible refine wp_cond_false ?_ ?_); (focus (go_simp; done))) | go_guarded | go_step)
        refine ⟨?_, ?_, ?_⟩
        · simp [z]
        · intro h; simp [z, t0]
        · intro h; simp [z]
      · have p6 : ¬ ((k : Int) + 6 ≤ (s.size : Int)) := by omega
        have p6' : (s.size : Int) < (k : Int) + 6 := by omega
        by_cases hb5 : k + 5 ≤ s.size
        · skip
          have p5 : (k : Int) + 5 ≤ (s.size : Int) := by omega
          have q5 : (0 : Int) ≤ (k : Int) + 5 := by omega
          have r5 : ((k : Int) + 5).toNat = k + 5 := by omega
          have w5 : IntKind.i64.wrap ((k : Int) + 5) = (k : Int) + 5 := IntWalk.i64_in _ (by omega)
          have f5 := e5 (by omega)
          have p3 : (k : Int) + 3 ≤ (s.size : Int) := by omega
          have q3 : (0 : Int) ≤ (k : Int) + 3 := by omega
          have r3 : ((k : Int) + 3).toNat = k + 3 := by omega
          have w3 : IntKind.i64.wrap ((k : Int) + 3) = (k : Int) + 3 := IntWalk.i64_in _ (by omega)
          have f3 := e3 (by omega)
          conv => arg 2; whnf
          repeat (first | ((with_reducible refine wp_cond_true ?_ ?_); (focus (go_simp; done))) | ((with_reducible refine wp_cond_false ?_ ?_); (focus (go_simp; done))) | go_guarded | go_step)
          refine ⟨?_, ?_, ?_⟩
          · simp [z]
          · intro h; simp [z, t0]
          · intro h; simp [z]
        · have p5 : ¬ ((k : Int) + 5 ≤ (s.size : Int)) := by omega
          have p5' : (s.size : Int) < (k : Int) + 5 := by omega
          by_cases hb3 : k + 3 ≤ s.size
          · skip
            have p3 : (k : Int) + 3 ≤ (s.size : Int) := by omega
            have q3 : (0 : Int) ≤ (k : Int) + 3 := by omega
            have r3 : ((k : Int) + 3).toNat = k + 3 := by omega
            have w3 : IntKind.i64.wrap ((k : Int) + 3) = (k : Int) + 3 := IntWalk.i64_in _ (by omega)
            have f3 := e3 (by omega)
            conv => arg 2; whnf
            repeat (first | ((with_reducible refine wp_cond_true ?_ ?_); (focus (go_simp; done))) | ((with_reducible refine wp_cond_false ?_ ?_); (focus (go_simp; done))) | go_guarded | go_step)
            refine ⟨?_, ?_, ?_⟩
            · simp [z]
            · intro h; simp [z, t0]
            · intro h; simp [z]
          · have p3 : ¬ ((k : Int) + 3 ≤ (s.size : Int)) := by omega
            have p3' : (s.size : Int) < (k : Int) + 3 := by omega
            conv => arg 2; whnf
            repeat (first | ((with_reducible refine wp_cond_true ?_ ?_); (focus (go_simp; done))) | ((with_reducible refine wp_cond_false ?_ ?_); (focus (go_simp; done))) | go_guarded | go_step)
            refine ⟨?_, ?_, ?_⟩
            · simp [z]
            · intro h; simp [z, t0]
            · intro h; simp [z]


end Go.Proofs.YtkcgngpoegglnaaGreatDoor
end
