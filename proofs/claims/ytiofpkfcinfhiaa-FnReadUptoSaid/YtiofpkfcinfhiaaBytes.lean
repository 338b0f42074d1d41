/-
  Worlds in which only some blocks have turned; words drawn one behind the other, as bytes.
-/
import Derived.Test.YtiofpkfcinfhiaaPut
import Derived.Deep.RegionHeld3
namespace Go.Proofs.Ytiofpkfcinfhiaa
open Go.RowKit

/-- Of what was there, only blocks of S have turned. -/
structure Only (S : Nat → Prop) (w w' : World) : Prop where
  os : w'.os = w.os
  tape : w'.tape = w.tape
  output : w'.output = w.output
  size : w.heap.size ≤ w'.heap.size
  block : ∀ i, i < w.heap.size → ¬ S i → w'.heap[i]? = w.heap[i]?

section
variable {S : Nat → Prop} {w w' w'' : World}
theorem Only.refl (S : Nat → Prop) (w : World) : Only S w w := ⟨rfl, rfl, rfl, Nat.le_refl _, fun _ _ _ => rfl⟩
theorem Only.trans (h : Only S w w') (k : Only S w' w'') : Only S w w'' :=
  ⟨k.os.trans h.os, k.tape.trans h.tape, k.output.trans h.output, Nat.le_trans h.size k.size, fun i hi hr => (k.block i (Nat.lt_of_lt_of_le hi h.size) hr).trans (h.block i hi hr)⟩
theorem Only.of_apart {lo hi : Nat} (h : Apart lo hi w w') (hs : ∀ i, lo ≤ i → i < hi → S i) : Only S w w' :=
  ⟨h.os, h.tape, h.output, h.size, fun i hi' hr => h.block i hi' (by
    rcases Nat.lt_or_ge i lo with a | a
    · exact .inl a
    · rcases Nat.lt_or_ge i hi with b | b
      · exact absurd (hs i a b) hr
      · exact .inr b)⟩
theorem Only.to_apart {lo hi : Nat} (h : Only S w w') (hs : ∀ i, S i → i < w.heap.size → lo ≤ i ∧ i < hi) : Apart lo hi w w' :=
  ⟨h.os, h.tape, h.output, h.size, fun i hi' hr => h.block i hi' (fun a => by have := hs i a hi'; omega)⟩
theorem Only.drew (h : Only S w w') : Only S w w'.drew := ⟨h.os, h.tape, h.output, h.size, h.block⟩
theorem Only.drewN (h : Only S w w') (n : Nat) : Only S w (w'.drewN n) := ⟨h.os, h.tape, h.output, h.size, h.block⟩
theorem Only.alloc (h : Only S w w') (o : Obj) : Only S w (w'.alloc o) := h.trans ⟨rfl, rfl, rfl, by simp, fun i hi _ => Below.heap_alloc _ _ _ hi⟩
theorem Only.setCell (h : Only S w w') {p : Addr} (hp : S p.block ∨ w.heap.size ≤ p.block) (u : Value) : Only S w (w'.setCell p u) :=
  ⟨h.os, h.tape, h.output, by simpa [World.setCell] using h.size, fun i hi hr => (Below.heap_setCell w' p u i (by rintro rfl; rcases hp with a | a; exact hr a; omega)).trans (h.block i hi hr)⟩
theorem Only.setRow (h : Only S w w') {g : Nat} (hp : S g ∨ w.heap.size ≤ g) (cs : Array Value) : Only S w (w'.setRow g cs) :=
  ⟨h.os, h.tape, h.output, by simpa [World.setRow] using h.size, fun i hi hr => (heap_setRow w' g cs i (by rintro rfl; rcases hp with a | a; exact hr a; omega)).trans (h.block i hi hr)⟩
theorem Blk.only {g : Nat} {t : TypeId} {cs : Array Value} (h : Blk w g t cs) (ha : Only S w w') (hg : ¬ S g) : Blk w' g t cs := (ha.block g h.lt hg).trans h
end

theorem splice_splice (arr : Array Value) (bs cs : List Value) : splice (splice arr 0 bs) bs.length cs = splice arr 0 (bs ++ cs) := by
  unfold splice
  simp only [List.take_zero, List.nil_append, Nat.zero_add, List.length_append]
  congr 1
  rw [List.take_append_of_le_length (Nat.le_refl _), List.take_of_length_le (Nat.le_refl _), List.drop_append, List.drop_of_length_le (show bs.length ≤ bs.length + cs.length by omega), List.nil_append, List.drop_drop]
  simp

theorem cha_rb {buf rb bs : List Value} {s0 s1 s2 s3 i n c rl : Int} (hb : buf.length = 32) (hr : rb.length = 8) (h8 : bs.length = 8) : splice (chaCells buf s0 s1 s2 s3 i n c rb rl) 39 bs = chaCells buf s0 s1 s2 s3 i n c bs rl := by
  unfold splice chaCells
  congr 1
  have e : buf ++ (Value.int .u64 s0 :: Value.int .u64 s1 :: Value.int .u64 s2 :: Value.int .u64 s3 :: Value.int .u32 i :: Value.int .u32 n :: Value.int .u32 c :: (rb ++ [Value.int .i64 rl])) =
      (buf ++ [Value.int .u64 s0, Value.int .u64 s1, Value.int .u64 s2, Value.int .u64 s3, Value.int .u32 i, Value.int .u32 n, Value.int .u32 c]) ++ (rb ++ [Value.int .i64 rl]) := by simp
  have hl : (buf ++ [Value.int .u64 s0, Value.int .u64 s1, Value.int .u64 s2, Value.int .u64 s3, Value.int .u32 i, Value.int .u32 n, Value.int .u32 c]).length = 39 := by simp [hb]
  simp only [e]
  rw [List.take_append_of_le_length (by omega), List.take_of_length_le (by omega), h8, List.drop_append, List.drop_of_length_le (by omega), hl, List.nil_append, List.drop_append, List.drop_of_length_le (by omega), hr]
  simp

/-- q words drawn one behind the other, as bytes, and the state behind them. -/
noncomputable def drawMany : Nat → Core → List Value × Core
  | 0, r => ([], r)
  | q + 1, r => ((drawMany q r).1 ++ bytes8 (drawWord (drawMany q r).2).1, (drawWord (drawMany q r).2).2)

theorem drawMany_ok {r : Core} (h : r.Ok) (q : Nat) : (drawMany q r).2.Ok := by
  induction q with
  | zero => exact h
  | succ q ih => exact drawWord_ok ih
theorem drawMany_length (r : Core) (q : Nat) : (drawMany q r).1.length = 8 * q := by
  induction q with
  | zero => rfl
  | succ q ih => simp only [drawMany, List.length_append, ih, bytes8, List.length_cons, List.length_nil]; omega

end Go.Proofs.Ytiofpkfcinfhiaa
