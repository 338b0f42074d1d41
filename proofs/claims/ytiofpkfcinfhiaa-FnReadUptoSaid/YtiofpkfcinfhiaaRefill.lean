/-
  The walks of a ChaCha8's Next, Refill and Uint64.
-/
import Derived.Test.YtiofpkfcinfhiaaNewCha
namespace Go.Proofs.Ytiofpkfcinfhiaa
open Go.RowKit

theorem and31 (z : Int) (h0 : 0 ≤ z) (h1 : z < 32) : bits .and .u32 z 31 = z := by
  have : bits .and .u32 z 31 = z % 32 := by go_bits2
  omega

set_option maxHeartbeats 1000000 in
theorem next_yes (C : Nat) {buf rb : List Value} {s0 s1 s2 s3 n c rl : Int} (k : Nat) (x : Int) (hbl : buf.length = 32) (hk : (k : Int) < n) (hn : n ≤ 32) (hx : buf[k]? = some (.int .u64 x)) (w : World) (hb : Blk w C 96 (chaCells buf s0 s1 s2 s3 k n c rb rl)) :
    Calls Try.prog 68 #[.pointer (some ⟨C, 0, none⟩)] w fun e w' => e = .returned (.tuple #[.int .u64 x, .bool true]) ∧ w' = w.setCell ⟨C, 36, none⟩ (.int .u32 ((k : Int) + 1)) := by
  have k36 := hb.frozen 36
  have c36 : w.cell? ⟨C, 36, none⟩ = some (.int .u32 k) := (hb.cell 36).trans (cha_at hbl 4)
  have c37 : w.cell? ⟨C, 37, none⟩ = some (.int .u32 n) := (hb.cell 37).trans (cha_at hbl 5)
  have ck : w.cell? ⟨C, k, none⟩ = some (.int .u64 x) := (hb.cell k).trans ((cha_buf hbl k (by omega)).trans hx)
  have ha := and31 k (by omega) (by omega)
  have hne : ¬ k = 36 := by omega
  clear hb hx
  go_enter Try.func68, Try.ntmps68
  go_wp2
  go_ret2
  exact ⟨rfl, rfl⟩


set_option maxHeartbeats 1000000 in
theorem next_no (C : Nat) {buf rb : List Value} {s0 s1 s2 s3 i n c rl : Int} (hbl : buf.length = 32) (hk : n ≤ i) (w : World) (hb : Blk w C 96 (chaCells buf s0 s1 s2 s3 i n c rb rl)) :
    Calls Try.prog 68 #[.pointer (some ⟨C, 0, none⟩)] w fun e w' => e = .returned (.tuple #[.int .u64 0, .bool false]) ∧ w = w' := by
  have c36 : w.cell? ⟨C, 36, none⟩ = some (.int .u32 i) := (hb.cell 36).trans (cha_at hbl 4)
  have c37 : w.cell? ⟨C, 37, none⟩ = some (.int .u32 n) := (hb.cell 37).trans (cha_at hbl 5)
  clear hb
  go_enter Try.func68, Try.ntmps68
  go_wp2
  go_ret2
  exact ⟨rfl, rfl⟩


set_option maxHeartbeats 1000000 in
theorem refill_low (C : Nat) {buf rb : List Value} {s0 s1 s2 s3 i n c rl : Int} (hbl : buf.length = 32) (hr : rb.length = 8) (h0 : 0 ≤ c) (hc : c < 8) (w : World) (hb : Blk w C 96 (chaCells buf s0 s1 s2 s3 i n c rb rl)) :
    Calls Try.prog 69 #[.pointer (some ⟨C, 0, none⟩)] w fun e w' => e = .returned (.tuple #[]) ∧ Blk w' C 96 (chaCells (chaBuf s0 s1 s2 s3 (c + 4)) s0 s1 s2 s3 0 32 (c + 4) rb rl) ∧ Apart C (C + 1) w w' := by
  have k38 := hb.frozen 38
  have c38 : w.cell? ⟨C, 38, none⟩ = some (.int .u32 c) := (hb.cell 38).trans (cha_at hbl 6)
  have t1 : ((c + 4 : Int) == 16) = false := by simp; omega
  have t2 : ((c + 4 : Int) == 12) = false := by simp; omega
  have HB := hide hb
  clear hb
  go_enter Try.func69, Try.ntmps69
  go_wp2
  have hS : Blk (w.setCell ⟨C, 38, none⟩ (.int .u32 (c + 4))) C 96 (chaCells buf s0 s1 s2 s3 i n (c + 4) rb rl) := by
    have h := HB.out.set_ 38 (.int .u32 (c + 4))
    rw [cha_set38 hbl] at h
    exact h
  have hA : Apart C (C + 1) w (w.setCell ⟨C, 38, none⟩ (.int .u32 (c + 4))) := (Apart.refl _ _ w).setCell (p := ⟨C, 38, none⟩) (.inl ⟨Nat.le_refl _, Nat.lt_succ_self _⟩) _
  generalize (w.setCell ⟨C, 38, none⟩ (.int .u32 (c + 4))) = W at hS hA ⊢
  clear k38 c38 HB 
  have r := run_block C hbl hr (c + 4) W.drew hS.drew
  have hB2 := hide (hS.drew.row (chaCells (chaBuf s0 s1 s2 s3 (c + 4)) s0 s1 s2 s3 i n (c + 4) rb rl))
  have c38 : W.cell? ⟨C, 38, none⟩ = some (.int .u32 (c + 4)) := (hS.cell 38).trans (cha_at hbl 6)
  have HA := hide hA
  clear hS hA
  go_region
  have hA2 : Apart C (C + 1) w (W.drew.setRow C (chaCells (chaBuf s0 s1 s2 s3 (c + 4)) s0 s1 s2 s3 i n (c + 4) rb rl)) := HA.out.drew.setRow (.inl ⟨Nat.le_refl _, Nat.lt_succ_self _⟩) _
  have hB3 := hB2.out
  clear r hB2 HA c38
  generalize W.drew.setRow C (chaCells (chaBuf s0 s1 s2 s3 (c + 4)) s0 s1 s2 s3 i n (c + 4) rb rl) = W2 at hA2 hB3 ⊢
  have k36 := hB3.frozen 36
  have k37 := hB3.frozen 37
  have c36 : W2.cell? ⟨C, 36, none⟩ = some (.int .u32 i) := (hB3.cell 36).trans (cha_at (chaBuf_length _ _ _ _ _) 4)
  have c37 : W2.cell? ⟨C, 37, none⟩ = some (.int .u32 n) := (hB3.cell 37).trans (cha_at (chaBuf_length _ _ _ _ _) 5)
  have c38 : W2.cell? ⟨C, 38, none⟩ = some (.int .u32 (c + 4)) := (hB3.cell 38).trans (cha_at (chaBuf_length _ _ _ _ _) 6)
  have HB := hide hB3
  have HA := hide hA2
  clear hB3 hA2
  go_wp2
  go_end0
  refine ⟨rfl, ?_, ?_⟩
  · have h := (HB.out.set_ 36 (.int .u32 0)).set_ 37 (.int .u32 32)
    rw [cha_set36 (chaBuf_length _ _ _ _ _), cha_set37 (chaBuf_length _ _ _ _ _)] at h
    exact h
  · exact (HA.out.setCell (p := ⟨C, 36, none⟩) (.inl ⟨Nat.le_refl _, Nat.lt_succ_self _⟩) _).setCell (p := ⟨C, 37, none⟩) (.inl ⟨Nat.le_refl _, Nat.lt_succ_self _⟩) _

set_option maxHeartbeats 1000000 in
theorem refill_mid (C : Nat) {buf rb : List Value} {s0 s1 s2 s3 i n rl : Int} (hbl : buf.length = 32) (hr : rb.length = 8) (w : World) (hb : Blk w C 96 (chaCells buf s0 s1 s2 s3 i n 8 rb rl)) :
    Calls Try.prog 69 #[.pointer (some ⟨C, 0, none⟩)] w fun e w' => e = .returned (.tuple #[]) ∧ Blk w' C 96 (chaCells (chaBuf s0 s1 s2 s3 12) s0 s1 s2 s3 0 28 12 rb rl) ∧ Apart C (C + 1) w w' := by
  have k38 := hb.frozen 38
  have c38 : w.cell? ⟨C, 38, none⟩ = some (.int .u32 8) := (hb.cell 38).trans (cha_at hbl 6)
  have HB := hide hb
  clear hb
  go_enter Try.func69, Try.ntmps69
  go_wp2
  have hS : Blk (w.setCell ⟨C, 38, none⟩ (.int .u32 12)) C 96 (chaCells buf s0 s1 s2 s3 i n 12 rb rl) := by
    have h := HB.out.set_ 38 (.int .u32 12)
    rw [cha_set38 hbl] at h
    exact h
  have hA : Apart C (C + 1) w (w.setCell ⟨C, 38, none⟩ (.int .u32 12)) := (Apart.refl _ _ w).setCell (p := ⟨C, 38, none⟩) (.inl ⟨Nat.le_refl _, Nat.lt_succ_self _⟩) _
  generalize (w.setCell ⟨C, 38, none⟩ (.int .u32 12)) = W at hS hA ⊢
  clear k38 c38 HB 
  have r := run_block C hbl hr 12 W.drew hS.drew
  have hB2 := hide (hS.drew.row (chaCells (chaBuf s0 s1 s2 s3 12) s0 s1 s2 s3 i n 12 rb rl))
  have c38 : W.cell? ⟨C, 38, none⟩ = some (.int .u32 12) := (hS.cell 38).trans (cha_at hbl 6)
  have HA := hide hA
  clear hS hA
  go_region
  have hA2 : Apart C (C + 1) w (W.drew.setRow C (chaCells (chaBuf s0 s1 s2 s3 12) s0 s1 s2 s3 i n 12 rb rl)) := HA.out.drew.setRow (.inl ⟨Nat.le_refl _, Nat.lt_succ_self _⟩) _
  have hB3 := hB2.out
  clear r hB2 HA c38
  generalize W.drew.setRow C (chaCells (chaBuf s0 s1 s2 s3 12) s0 s1 s2 s3 i n 12 rb rl) = W2 at hA2 hB3 ⊢
  have k36 := hB3.frozen 36
  have k37 := hB3.frozen 37
  have c36 : W2.cell? ⟨C, 36, none⟩ = some (.int .u32 i) := (hB3.cell 36).trans (cha_at (chaBuf_length _ _ _ _ _) 4)
  have c37 : W2.cell? ⟨C, 37, none⟩ = some (.int .u32 n) := (hB3.cell 37).trans (cha_at (chaBuf_length _ _ _ _ _) 5)
  have c38 : W2.cell? ⟨C, 38, none⟩ = some (.int .u32 12) := (hB3.cell 38).trans (cha_at (chaBuf_length _ _ _ _ _) 6)
  have HB := hide hB3
  have HA := hide hA2
  clear hB3 hA2
  go_wp2
  go_end0
  refine ⟨rfl, ?_, ?_⟩
  · have h := ((HB.out.set_ 36 (.int .u32 0)).set_ 37 (.int .u32 32)).set_ 37 (.int .u32 28)
    rw [cha_set36 (chaBuf_length _ _ _ _ _), cha_set37 (chaBuf_length _ _ _ _ _), cha_set37 (chaBuf_length _ _ _ _ _)] at h
    first | exact h | (rw [World.setCell_setCell_same] at h; exact h)
  · first | exact ((HA.out.setCell (p := ⟨C, 36, none⟩) (.inl ⟨Nat.le_refl _, Nat.lt_succ_self _⟩) _).setCell (p := ⟨C, 37, none⟩) (.inl ⟨Nat.le_refl _, Nat.lt_succ_self _⟩) _).setCell (p := ⟨C, 37, none⟩) (.inl ⟨Nat.le_refl _, Nat.lt_succ_self _⟩) _ | exact (HA.out.setCell (p := ⟨C, 36, none⟩) (.inl ⟨Nat.le_refl _, Nat.lt_succ_self _⟩) _).setCell (p := ⟨C, 37, none⟩) (.inl ⟨Nat.le_refl _, Nat.lt_succ_self _⟩) _

set_option maxHeartbeats 1000000 in
theorem refill_top (C : Nat) {buf rb : List Value} {s0 s1 s2 s3 i n rl x0 x1 x2 x3 : Int} (hbl : buf.length = 32) (hr : rb.length = 8) (h0 : buf[28]? = some (.int .u64 x0)) (h1 : buf[29]? = some (.int .u64 x1)) (h2 : buf[30]? = some (.int .u64 x2)) (h3 : buf[31]? = some (.int .u64 x3)) (w : World) (hb : Blk w C 96 (chaCells buf s0 s1 s2 s3 i n 12 rb rl)) :
    Calls Try.prog 69 #[.pointer (some ⟨C, 0, none⟩)] w fun e w' => e = .returned (.tuple #[]) ∧ Blk w' C 96 (chaCells (chaBuf x0 x1 x2 x3 0) x0 x1 x2 x3 0 32 0 rb rl) ∧ Apart C (C + 1) w w' := by
  have k38 := hb.frozen 38
  have c38 : w.cell? ⟨C, 38, none⟩ = some (.int .u32 12) := (hb.cell 38).trans (cha_at hbl 6)
  have b28 : w.cell? ⟨C, 28, none⟩ = some (.int .u64 x0) := (hb.cell 28).trans ((cha_buf hbl 28 (by omega)).trans h0)
  have b29 : w.cell? ⟨C, 29, none⟩ = some (.int .u64 x1) := (hb.cell 29).trans ((cha_buf hbl 29 (by omega)).trans h1)
  have b30 : w.cell? ⟨C, 30, none⟩ = some (.int .u64 x2) := (hb.cell 30).trans ((cha_buf hbl 30 (by omega)).trans h2)
  have b31 : w.cell? ⟨C, 31, none⟩ = some (.int .u64 x3) := (hb.cell 31).trans ((cha_buf hbl 31 (by omega)).trans h3)
  have k32 := hb.frozen 32
  have k33 := hb.frozen 33
  have k34 := hb.frozen 34
  have k35 := hb.frozen 35
  have c32 : w.cell? ⟨C, 32, none⟩ = some (.int .u64 s0) := (hb.cell 32).trans (cha_at hbl 0)
  have c33 : w.cell? ⟨C, 33, none⟩ = some (.int .u64 s1) := (hb.cell 33).trans (cha_at hbl 1)
  have c34 : w.cell? ⟨C, 34, none⟩ = some (.int .u64 s2) := (hb.cell 34).trans (cha_at hbl 2)
  have c35 : w.cell? ⟨C, 35, none⟩ = some (.int .u64 s3) := (hb.cell 35).trans (cha_at hbl 3)
  have HB := hide hb
  clear hb
  go_enter Try.func69, Try.ntmps69
  go_wp2
  go_region
  go_wp2
  go_region
  go_wp2
  go_region
  go_wp2
  go_region
  go_wp2
  have hS : Blk ((((((w.setCell ⟨C, 38, none⟩ (.int .u32 16)).setCell ⟨C, 32, none⟩ (.int .u64 x0)).setCell ⟨C, 33, none⟩ (.int .u64 x1)).setCell ⟨C, 34, none⟩ (.int .u64 x2)).setCell ⟨C, 35, none⟩ (.int .u64 x3)).setCell ⟨C, 38, none⟩ (.int .u32 0)).drew.drew.drew.drew C 96 (chaCells buf x0 x1 x2 x3 i n 0 rb rl) := by
    have h := (((((HB.out.set_ 38 (.int .u32 16)).set_ 32 (.int .u64 x0)).set_ 33 (.int .u64 x1)).set_ 34 (.int .u64 x2)).set_ 35 (.int .u64 x3)).set_ 38 (.int .u32 0)
    rw [cha_set38 hbl, cha_set32 hbl, cha_set33 hbl, cha_set34 hbl, cha_set35 hbl, cha_set38 hbl] at h
    exact h.drew.drew.drew.drew
  have hA : Apart C (C + 1) w ((((((w.setCell ⟨C, 38, none⟩ (.int .u32 16)).setCell ⟨C, 32, none⟩ (.int .u64 x0)).setCell ⟨C, 33, none⟩ (.int .u64 x1)).setCell ⟨C, 34, none⟩ (.int .u64 x2)).setCell ⟨C, 35, none⟩ (.int .u64 x3)).setCell ⟨C, 38, none⟩ (.int .u32 0)).drew.drew.drew.drew := (((((((Apart.refl _ _ w).setCell (p := ⟨C, 38, none⟩) (.inl ⟨Nat.le_refl _, Nat.lt_succ_self _⟩) _).setCell (p := ⟨C, 32, none⟩) (.inl ⟨Nat.le_refl _, Nat.lt_succ_self _⟩) _).setCell (p := ⟨C, 33, none⟩) (.inl ⟨Nat.le_refl _, Nat.lt_succ_self _⟩) _).setCell (p := ⟨C, 34, none⟩) (.inl ⟨Nat.le_refl _, Nat.lt_succ_self _⟩) _).setCell (p := ⟨C, 35, none⟩) (.inl ⟨Nat.le_refl _, Nat.lt_succ_self _⟩) _).setCell (p := ⟨C, 38, none⟩) (.inl ⟨Nat.le_refl _, Nat.lt_succ_self _⟩) _).drew.drew.drew.drew
  generalize ((((((w.setCell ⟨C, 38, none⟩ (.int .u32 16)).setCell ⟨C, 32, none⟩ (.int .u64 x0)).setCell ⟨C, 33, none⟩ (.int .u64 x1)).setCell ⟨C, 34, none⟩ (.int .u64 x2)).setCell ⟨C, 35, none⟩ (.int .u64 x3)).setCell ⟨C, 38, none⟩ (.int .u32 0)).drew.drew.drew.drew = W at hS hA ⊢
  clear k38 c38 HB k32 k33 k34 k35 c32 c33 c34 c35 b28 b29 b30 b31
  have r := run_block C hbl hr 0 W.drew hS.drew
  have hB2 := hide (hS.drew.row (chaCells (chaBuf x0 x1 x2 x3 0) x0 x1 x2 x3 i n 0 rb rl))
  have c38 : W.cell? ⟨C, 38, none⟩ = some (.int .u32 0) := (hS.cell 38).trans (cha_at hbl 6)
  have HA := hide hA
  clear hS hA
  go_region
  have hA2 : Apart C (C + 1) w (W.drew.setRow C (chaCells (chaBuf x0 x1 x2 x3 0) x0 x1 x2 x3 i n 0 rb rl)) := HA.out.drew.setRow (.inl ⟨Nat.le_refl _, Nat.lt_succ_self _⟩) _
  have hB3 := hB2.out
  clear r hB2 HA c38
  generalize W.drew.setRow C (chaCells (chaBuf x0 x1 x2 x3 0) x0 x1 x2 x3 i n 0 rb rl) = W2 at hA2 hB3 ⊢
  have k36 := hB3.frozen 36
  have k37 := hB3.frozen 37
  have c36 : W2.cell? ⟨C, 36, none⟩ = some (.int .u32 i) := (hB3.cell 36).trans (cha_at (chaBuf_length _ _ _ _ _) 4)
  have c37 : W2.cell? ⟨C, 37, none⟩ = some (.int .u32 n) := (hB3.cell 37).trans (cha_at (chaBuf_length _ _ _ _ _) 5)
  have c38 : W2.cell? ⟨C, 38, none⟩ = some (.int .u32 0) := (hB3.cell 38).trans (cha_at (chaBuf_length _ _ _ _ _) 6)
  have HB := hide hB3
  have HA := hide hA2
  clear hB3 hA2
  go_wp2
  go_end0
  refine ⟨rfl, ?_, ?_⟩
  · have h := (HB.out.set_ 36 (.int .u32 0)).set_ 37 (.int .u32 32)
    rw [cha_set36 (chaBuf_length _ _ _ _ _), cha_set37 (chaBuf_length _ _ _ _ _)] at h
    exact h
  · exact (HA.out.setCell (p := ⟨C, 36, none⟩) (.inl ⟨Nat.le_refl _, Nat.lt_succ_self _⟩) _).setCell (p := ⟨C, 37, none⟩) (.inl ⟨Nat.le_refl _, Nat.lt_succ_self _⟩) _

/-- A ChaCha8's cells in good order: the buffer holds words, n fits the counter, i is at most n. -/
structure ChaOk (cs : Array Value) (buf : List Value) (s0 s1 s2 s3 : Int) (k : Nat) (n c : Int) (rb : List Value) (rl : Int) : Prop where
  eq : cs = chaCells buf s0 s1 s2 s3 k n c rb rl
  bl : buf.length = 32
  rbl : rb.length = 8
  words : ∀ j, j < 32 → ∃ x : Int, buf[j]? = some (.int .u64 x)
  nc : ((c = 0 ∨ c = 4 ∨ c = 8) ∧ n = 32) ∨ (c = 12 ∧ n = 28)
  kn : (k : Int) ≤ n

theorem chaBuf_words (s0 s1 s2 s3 c : Int) (j : Nat) (hj : j < 32) : ∃ x : Int, (chaBuf s0 s1 s2 s3 c)[j]? = some (.int .u64 x) := chaWords_at _ _ j hj

/-- Refill, whatever the counter: a state in good order with i = 0. -/
theorem refill_ok {cs : Array Value} {buf rb : List Value} {s0 s1 s2 s3 n c rl : Int} {k : Nat} (h : ChaOk cs buf s0 s1 s2 s3 k n c rb rl) :
    ∃ (cs' : Array Value) (buf' : List Value) (t0 t1 t2 t3 n' c' : Int), ChaOk cs' buf' t0 t1 t2 t3 0 n' c' rb rl ∧ 0 < n' ∧ ∀ (C : Nat) (w : World), Blk w C 96 cs →
      Calls Try.prog 69 #[.pointer (some ⟨C, 0, none⟩)] w fun e w' => e = .returned (.tuple #[]) ∧ Blk w' C 96 cs' ∧ Apart C (C + 1) w w' := by
  obtain ⟨rfl, bl, rbl, words, nc, kn⟩ := h
  rcases nc with ⟨h048, rfl⟩ | ⟨rfl, rfl⟩
  · by_cases h8 : c = 8
    · subst h8
      exact ⟨_, _, s0, s1, s2, s3, 28, 12, ⟨rfl, chaBuf_length _ _ _ _ _, rbl, chaBuf_words _ _ _ _ _, .inr ⟨rfl, rfl⟩, by omega⟩, by omega, fun C w hb => refill_mid C bl rbl w hb⟩
    · exact ⟨_, _, s0, s1, s2, s3, 32, c + 4, ⟨rfl, chaBuf_length _ _ _ _ _, rbl, chaBuf_words _ _ _ _ _, .inl ⟨by omega, rfl⟩, by omega⟩, by omega, fun C w hb => refill_low C bl rbl (by omega) (by omega) w hb⟩
  · obtain ⟨x0, h0⟩ := words 28 (by omega)
    obtain ⟨x1, h1⟩ := words 29 (by omega)
    obtain ⟨x2, h2⟩ := words 30 (by omega)
    obtain ⟨x3, h3⟩ := words 31 (by omega)
    exact ⟨_, _, x0, x1, x2, x3, 32, 0, ⟨rfl, chaBuf_length _ _ _ _ _, rbl, chaBuf_words _ _ _ _ _, .inl ⟨.inl rfl, rfl⟩, by omega⟩, by omega, fun C w hb => refill_top C bl rbl h0 h1 h2 h3 w hb⟩

set_option maxHeartbeats 1000000 in
/-- Uint64 where a word is left. -/
theorem cha_draw (C : Nat) {buf rb : List Value} {s0 s1 s2 s3 n c rl : Int} (k : Nat) (x : Int) (hbl : buf.length = 32) (hk : (k : Int) < n) (hn : n ≤ 32) (hx : buf[k]? = some (.int .u64 x)) (w : World) (hb : Blk w C 96 (chaCells buf s0 s1 s2 s3 k n c rb rl)) :
    Calls Try.prog 64 #[.pointer (some ⟨C, 0, none⟩)] w fun e w' => e = .returned (.int .u64 x) ∧ w' = w.setCell ⟨C, 36, none⟩ (.int .u32 ((k : Int) + 1)) := by
  have hc := hide (next_yes C k x hbl hk hn hx w hb)
  clear hb hx
  go_enter Try.func64, Try.ntmps64
  go_wp2_with fail
  refine wp_loop_rounds 1 ?_
  rw [rounds_succ]
  go_wp2_with fail
  go_call hc.out as e w' ⟨rfl, rfl⟩
  go_wp2
  go_ret
  exact ⟨rfl, rfl⟩

end Go.Proofs.Ytiofpkfcinfhiaa
