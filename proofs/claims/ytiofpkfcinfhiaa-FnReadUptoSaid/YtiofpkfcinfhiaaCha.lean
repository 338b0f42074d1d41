/-
  The walks of a ChaCha8: its cells, the block function, Init64.
-/
import Derived.Test.YtiofpkfcinfhiaaPcg
namespace Go.Proofs.Ytiofpkfcinfhiaa
open Go.RowKit

/-- The cells of a ChaCha8: the buffer's 32 words, the seed's four, i, n, c, the read buffer's 8 bytes, its length. -/
def chaCells (buf : List Value) (s0 s1 s2 s3 i n c : Int) (rb : List Value) (rl : Int) : Array Value :=
  (buf ++ (Value.int .u64 s0 :: Value.int .u64 s1 :: Value.int .u64 s2 :: Value.int .u64 s3 :: Value.int .u32 i :: Value.int .u32 n :: Value.int .u32 c :: (rb ++ [Value.int .i64 rl]))).toArray

section
variable {buf rb : List Value} {s0 s1 s2 s3 i n c rl : Int} (hb : buf.length = 32)
include hb
theorem cha_at (j : Nat) : (chaCells buf s0 s1 s2 s3 i n c rb rl)[32 + j]? = (Value.int .u64 s0 :: .int .u64 s1 :: .int .u64 s2 :: .int .u64 s3 :: .int .u32 i :: .int .u32 n :: .int .u32 c :: (rb ++ [.int .i64 rl]))[j]? := by
  unfold chaCells
  rw [List.getElem?_toArray, List.getElem?_append_right (by omega), hb]
  congr 1
  omega
theorem cha_buf (j : Nat) (hj : j < 32) : (chaCells buf s0 s1 s2 s3 i n c rb rl)[j]? = buf[j]? := by
  unfold chaCells
  rw [List.getElem?_toArray, List.getElem?_append_left (by omega)]
theorem cha_set (j : Nat) (v : Value) : (chaCells buf s0 s1 s2 s3 i n c rb rl).setIfInBounds (32 + j) v =
    (buf ++ (Value.int .u64 s0 :: .int .u64 s1 :: .int .u64 s2 :: .int .u64 s3 :: .int .u32 i :: .int .u32 n :: .int .u32 c :: (rb ++ [.int .i64 rl])).set j v).toArray := by
  unfold chaCells
  rw [List.setIfInBounds_toArray, List.set_append_right _ _ (by omega), hb]
  congr 3
  omega
theorem cha_set32 (v : Int) : (chaCells buf s0 s1 s2 s3 i n c rb rl).setIfInBounds 32 (.int .u64 v) = chaCells buf v s1 s2 s3 i n c rb rl := cha_set hb 0 _
theorem cha_set33 (v : Int) : (chaCells buf s0 s1 s2 s3 i n c rb rl).setIfInBounds 33 (.int .u64 v) = chaCells buf s0 v s2 s3 i n c rb rl := cha_set hb 1 _
theorem cha_set34 (v : Int) : (chaCells buf s0 s1 s2 s3 i n c rb rl).setIfInBounds 34 (.int .u64 v) = chaCells buf s0 s1 v s3 i n c rb rl := cha_set hb 2 _
theorem cha_set35 (v : Int) : (chaCells buf s0 s1 s2 s3 i n c rb rl).setIfInBounds 35 (.int .u64 v) = chaCells buf s0 s1 s2 v i n c rb rl := cha_set hb 3 _
theorem cha_set36 (v : Int) : (chaCells buf s0 s1 s2 s3 i n c rb rl).setIfInBounds 36 (.int .u32 v) = chaCells buf s0 s1 s2 s3 v n c rb rl := cha_set hb 4 _
theorem cha_set37 (v : Int) : (chaCells buf s0 s1 s2 s3 i n c rb rl).setIfInBounds 37 (.int .u32 v) = chaCells buf s0 s1 s2 s3 i v c rb rl := cha_set hb 5 _
theorem cha_set38 (v : Int) : (chaCells buf s0 s1 s2 s3 i n c rb rl).setIfInBounds 38 (.int .u32 v) = chaCells buf s0 s1 s2 s3 i n v rb rl := cha_set hb 6 _
theorem cha_set47 (hr : rb.length = 8) (v : Int) : (chaCells buf s0 s1 s2 s3 i n c rb rl).setIfInBounds 47 (.int .i64 v) = chaCells buf s0 s1 s2 s3 i n c rb v := by
  rw [show (47 : Nat) = 32 + 15 from rfl, cha_set hb 15]
  unfold chaCells
  simp only [List.set_cons_succ]
  rw [List.set_append_right _ _ (by omega), hr]
  rfl
theorem cha_size (hr : rb.length = 8) : (chaCells buf s0 s1 s2 s3 i n c rb rl).size = 48 := by simp [chaCells, hb, hr]
/-- the block function's store: the buffer anew -/
theorem cha_row (nb : List Value) : (nb ++ (chaCells buf s0 s1 s2 s3 i n c rb rl).toList.drop 32).toArray = chaCells nb s0 s1 s2 s3 i n c rb rl := by
  unfold chaCells
  rw [List.drop_append_of_le_length (by omega), List.drop_of_length_le (by omega), List.nil_append]
end

/-- The 32 words that the block function stores, of the seed's four words and the counter. -/
def chaWords (s : Array Nat) (n : Nat) : List Value :=
  let key := s.flatMap fun x => #[x % Extern.Chacha8Block.m32, x / Extern.Chacha8Block.m32]
  let lanes := (Array.range 4).map fun i => Extern.Chacha8Block.lane key (n + i)
  let word (j : Nat) : Nat := (lanes.getD (j % 4) #[]).getD (j / 4) 0
  (List.range 32).map fun k => .int .u64 (Int.ofNat (word (2 * k) + word (2 * k + 1) * Extern.Chacha8Block.m32))

theorem block_eq (seed buf counter : Value) : Extern.Chacha8Block.block #[seed, buf, counter] = (do
    let s ← (← loadCells (← asAddr seed) 4).mapM fun c => do pure (← asInt c).toNat
    let n := (← asInt counter).toNat
    storeCells (← asAddr buf) (chaWords s n)
    pure (.tuple #[])) := rfl

theorem chaWords_length (s : Array Nat) (n : Nat) : (chaWords s n).length = 32 := by simp [chaWords]
theorem chaWords_one (s : Array Nat) (n : Nat) : ∀ v ∈ chaWords s n, v.oneCell' = true := by
  intro v hv
  simp only [chaWords, List.mem_map] at hv
  obtain ⟨k, _, rfl⟩ := hv
  rfl
/-- each of them is a word -/
theorem chaWords_at (s : Array Nat) (n j : Nat) (hj : j < 32) : ∃ x : Int, (chaWords s n)[j]? = some (.int .u64 x) := by
  have hl : j < (chaWords s n).length := by rw [chaWords_length]; exact hj
  have hm : (chaWords s n)[j] ∈ chaWords s n := List.getElem_mem hl
  have hg : (chaWords s n)[j]? = some (chaWords s n)[j] := List.getElem?_eq_getElem hl
  generalize (chaWords s n)[j] = v at hm hg
  simp only [chaWords, List.mem_map] at hm
  obtain ⟨k, _, rfl⟩ := hm
  exact ⟨_, hg⟩

/-- The seed's words and the counter as the block function takes them. -/
def chaBuf (s0 s1 s2 s3 c : Int) : List Value := chaWords #[s0.toNat, s1.toNat, s2.toNat, s3.toNat] c.toNat
theorem chaBuf_length (s0 s1 s2 s3 c : Int) : (chaBuf s0 s1 s2 s3 c).length = 32 := chaWords_length _ _

theorem run_block (G : Nat) {buf rb : List Value} {s0 s1 s2 s3 i n c rl : Int} (hb : buf.length = 32) (hr : rb.length = 8) (k : Int) (w : World) (h : Blk w G 96 (chaCells buf s0 s1 s2 s3 i n c rb rl)) :
    (callFunc 67 #[.pointer (some ⟨G, 32, none⟩), .pointer (some ⟨G, 0, none⟩), .int .u32 k]).run Try.prog w =
      .ok (.value (.tuple #[])) (w.setRow G (chaCells (chaBuf s0 s1 s2 s3 k) s0 s1 s2 s3 i n c rb rl)) := by
  rw [run_callFunc_extern Try.func67 (by kernel_rfl) (by kernel_rfl) (by kernel_rfl) (e := Extern.Chacha8Block.block) (by kernel_rfl)]
  have hl := run_loadCells_list (P := Try.prog) w ⟨G, 32, none⟩ [.int .u64 s0, .int .u64 s1, .int .u64 s2, .int .u64 s3] (fun j v hv => by
    have hadd : (⟨G, 32, none⟩ : Addr).add j = ⟨G, 32 + j, none⟩ := by unfold Addr.add; split <;> simp_all
    rw [hadd, h.cell, cha_at hb]
    match j, hv with
    | 0, hv => simpa using hv
    | 1, hv => simpa using hv
    | 2, hv => simpa using hv
    | 3, hv => simpa using hv)
  have hst := run_storeCells_at Try.prog G 0 96 (chaWords #[s0.toNat, s1.toNat, s2.toNat, s3.toNat] k.toNat) 0 _ w h (by rw [chaWords_length, cha_size hb hr]; omega) (chaWords_one _ _)
  rw [chaWords_length] at hst
  simp only [Nat.zero_add, List.take_zero, List.nil_append] at hst
  rw [cha_row hb] at hst
  rw [block_eq]
  simp only [List.length_cons, List.length_nil] at hl
  simp [asAddr, hl, asInt, asIntOf, hst, chaBuf]


set_option maxHeartbeats 1000000 in
theorem init64_any (C : Nat) {buf rb : List Value} {t0 t1 t2 t3 i n c rl : Int} (hbl : buf.length = 32) (hr : rb.length = 8) (s0 s1 s2 s3 : Int) (w : World) (hb : Blk w C 96 (chaCells buf t0 t1 t2 t3 i n c rb rl)) :
    Calls Try.prog 59 #[.pointer (some ⟨C, 0, none⟩), .agg #[.int .u64 s0, .int .u64 s1, .int .u64 s2, .int .u64 s3]] w fun e w' => e = .returned (.tuple #[]) ∧ Blk w' C 96 (chaCells (chaBuf s0 s1 s2 s3 0) s0 s1 s2 s3 0 32 0 rb rl) ∧ Apart C (C + 1) w w' := by
  have k32 := hb.frozen 32
  have k33 := hb.frozen 33
  have k34 := hb.frozen 34
  have k35 := hb.frozen 35
  have c32 : w.cell? ⟨C, 32, none⟩ = some (.int .u64 t0) := (hb.cell 32).trans (cha_at hbl 0)
  have c33 : w.cell? ⟨C, 33, none⟩ = some (.int .u64 t1) := (hb.cell 33).trans (cha_at hbl 1)
  have c34 : w.cell? ⟨C, 34, none⟩ = some (.int .u64 t2) := (hb.cell 34).trans (cha_at hbl 2)
  have c35 : w.cell? ⟨C, 35, none⟩ = some (.int .u64 t3) := (hb.cell 35).trans (cha_at hbl 3)
  have hlt := hb.lt
  have hne : ¬ C = w.heap.size := by omega
  have HB := hide hb
  clear hb
  go_enter Try.func59, Try.ntmps59
  go_wp2
  have hB : Blk (((((w.setCell ⟨C, 32, none⟩ (.int .u64 s0)).setCell ⟨C, 33, none⟩ (.int .u64 s1)).setCell ⟨C, 34, none⟩ (.int .u64 s2)).setCell ⟨C, 35, none⟩ (.int .u64 s3)).alloc (.cells #[.int .u64 s0, .int .u64 s1, .int .u64 s2, .int .u64 s3] 90))
      C 96 (chaCells buf s0 s1 s2 s3 i n c rb rl) := by
    have h := ((((HB.out.set_ 32 (.int .u64 s0)).set_ 33 (.int .u64 s1)).set_ 34 (.int .u64 s2)).set_ 35 (.int .u64 s3)).alloc (.cells #[.int .u64 s0, .int .u64 s1, .int .u64 s2, .int .u64 s3] 90)
    rw [cha_set32 hbl, cha_set33 hbl, cha_set34 hbl, cha_set35 hbl] at h
    exact h
  have hA : Apart C (C + 1) w (((((w.setCell ⟨C, 32, none⟩ (.int .u64 s0)).setCell ⟨C, 33, none⟩ (.int .u64 s1)).setCell ⟨C, 34, none⟩ (.int .u64 s2)).setCell ⟨C, 35, none⟩ (.int .u64 s3)).alloc (.cells #[.int .u64 s0, .int .u64 s1, .int .u64 s2, .int .u64 s3] 90)) :=
    (((((Apart.refl _ _ w).setCell (p := ⟨C, 32, none⟩) (.inl ⟨Nat.le_refl _, Nat.lt_succ_self _⟩) _).setCell (p := ⟨C, 33, none⟩) (.inl ⟨Nat.le_refl _, Nat.lt_succ_self _⟩) _).setCell (p := ⟨C, 34, none⟩) (.inl ⟨Nat.le_refl _, Nat.lt_succ_self _⟩) _).setCell (p := ⟨C, 35, none⟩) (.inl ⟨Nat.le_refl _, Nat.lt_succ_self _⟩) _).alloc _
  generalize (((((w.setCell ⟨C, 32, none⟩ (.int .u64 s0)).setCell ⟨C, 33, none⟩ (.int .u64 s1)).setCell ⟨C, 34, none⟩ (.int .u64 s2)).setCell ⟨C, 35, none⟩ (.int .u64 s3)).alloc (.cells #[.int .u64 s0, .int .u64 s1, .int .u64 s2, .int .u64 s3] 90)) = W at hB hA ⊢
  clear k32 k33 k34 k35 c32 c33 c34 c35 HB
  have r := run_block C hbl hr 0 W.drew hB.drew
  have hB2 := hide (hB.drew.row (chaCells (chaBuf s0 s1 s2 s3 0) s0 s1 s2 s3 i n c rb rl))
  have HA := hide hA
  clear hB hA
  go_region
  have hA2 : Apart C (C + 1) w (W.drew.setRow C (chaCells (chaBuf s0 s1 s2 s3 0) s0 s1 s2 s3 i n c rb rl)) := HA.out.drew.setRow (.inl ⟨Nat.le_refl _, Nat.lt_succ_self _⟩) _
  have hB3 := hB2.out
  clear r hB2 HA
  generalize W.drew.setRow C (chaCells (chaBuf s0 s1 s2 s3 0) s0 s1 s2 s3 i n c rb rl) = W2 at hA2 hB3 ⊢
  have k36 := hB3.frozen 36
  have k37 := hB3.frozen 37
  have k38 := hB3.frozen 38
  have c36 : W2.cell? ⟨C, 36, none⟩ = some (.int .u32 i) := (hB3.cell 36).trans (cha_at (chaBuf_length _ _ _ _ _) 4)
  have c37 : W2.cell? ⟨C, 37, none⟩ = some (.int .u32 n) := (hB3.cell 37).trans (cha_at (chaBuf_length _ _ _ _ _) 5)
  have c38 : W2.cell? ⟨C, 38, none⟩ = some (.int .u32 c) := (hB3.cell 38).trans (cha_at (chaBuf_length _ _ _ _ _) 6)
  have HB := hide hB3
  have HA := hide hA2
  clear hB3 hA2
  go_wp2
  go_end0
  refine ⟨rfl, ?_, ?_⟩
  · have h := ((HB.out.set_ 38 (.int .u32 0)).set_ 36 (.int .u32 0)).set_ 37 (.int .u32 32)
    rw [cha_set38 (chaBuf_length _ _ _ _ _), cha_set36 (chaBuf_length _ _ _ _ _), cha_set37 (chaBuf_length _ _ _ _ _)] at h
    exact h
  · exact (((HA.out.setCell (p := ⟨C, 38, none⟩) (.inl ⟨Nat.le_refl _, Nat.lt_succ_self _⟩) _).setCell (p := ⟨C, 36, none⟩) (.inl ⟨Nat.le_refl _, Nat.lt_succ_self _⟩) _).setCell (p := ⟨C, 37, none⟩) (.inl ⟨Nat.le_refl _, Nat.lt_succ_self _⟩) _)

end Go.Proofs.Ytiofpkfcinfhiaa
