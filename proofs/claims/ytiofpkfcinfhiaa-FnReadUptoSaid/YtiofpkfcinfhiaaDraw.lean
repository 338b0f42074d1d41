/-
  A ChaCha8's Uint64, whatever is left in its buffer; what a new one draws first.
-/
import Derived.Test.YtiofpkfcinfhiaaRefill
namespace Go.Proofs.Ytiofpkfcinfhiaa
open Go.RowKit

set_option maxHeartbeats 1000000 in
/-- Uint64 where no word is left: Refill, and then the first word. -/
theorem cha_draw2 (C : Nat) (x : Int) (cs cs' : Array Value) {buf rb buf' : List Value} {s0 s1 s2 s3 i n c rl t0 t1 t2 t3 n' c' : Int} (hbl : buf.length = 32) (hk : n ≤ i) (hcs : cs = chaCells buf s0 s1 s2 s3 i n c rb rl)
    (hbl' : buf'.length = 32) (hn0 : 0 < n') (hn : n' ≤ 32) (hx : buf'[0]? = some (.int .u64 x)) (hcs' : cs' = chaCells buf' t0 t1 t2 t3 (0 : Nat) n' c' rb rl)
    (hf : ∀ (w : World), Blk w C 96 cs → Calls Try.prog 69 #[.pointer (some ⟨C, 0, none⟩)] w fun e w' => e = .returned (.tuple #[]) ∧ Blk w' C 96 cs' ∧ Apart C (C + 1) w w') (w : World) (hb : Blk w C 96 cs) :
    Calls Try.prog 64 #[.pointer (some ⟨C, 0, none⟩)] w fun e w' => e = .returned (.int .u64 x) ∧ Blk w' C 96 (chaCells buf' t0 t1 t2 t3 (1 : Nat) n' c' rb rl) ∧ Apart C (C + 1) w w' := by
  have Hb := hide hb
  have Hf := hide hf
  have Hcs := hide hcs
  have Hcs' := hide hcs'
  have Hx := hide hx
  clear hb hf hcs hcs' hx
  go_enter Try.func64, Try.ntmps64
  go_wp2_with fail
  refine wp_loop_rounds 2 ?_
  rw [rounds_succ]
  go_wp2_with fail
  go_call (next_no C hbl hk _ (by have h := Hb.out; rw [Hcs.out] at h; exact h)) as e w' ⟨rfl, rfl⟩
  go_wp2_with fail
  go_call (Hf.out _ Hb.out) as e w1 ⟨rfl, hB, hA⟩
  have HB := hide hB
  have HA := hide hA
  clear hB hA
  go_wp2_with fail
  rw [rounds_succ]
  go_wp2_with fail
  go_call (next_yes C 0 x hbl' (by omega) hn Hx.out _ (by have h := HB.out; rw [Hcs'.out] at h; exact h)) as e w' ⟨rfl, rfl⟩
  go_wp2
  go_ret
  refine ⟨rfl, ?_, ?_⟩
  · have h := HB.out
    rw [Hcs'.out] at h
    have h2 := h.set_ 36 (.int .u32 1)
    rw [cha_set36 hbl'] at h2
    exact h2
  · exact HA.out.setCell (p := ⟨C, 36, none⟩) (.inl ⟨Nat.le_refl _, Nat.lt_succ_self _⟩) _

/-- Uint64 of a ChaCha8 in good order: a word, and a state in good order, both out of the state alone. -/
theorem cha_u64 {cs : Array Value} {buf rb : List Value} {s0 s1 s2 s3 n c rl : Int} {k : Nat} (h : ChaOk cs buf s0 s1 s2 s3 k n c rb rl) :
    ∃ (x : Int) (cs' : Array Value) (buf' : List Value) (t0 t1 t2 t3 n' c' : Int) (k' : Nat), ChaOk cs' buf' t0 t1 t2 t3 k' n' c' rb rl ∧ ∀ (C : Nat) (w : World), Blk w C 96 cs →
      Calls Try.prog 64 #[.pointer (some ⟨C, 0, none⟩)] w fun e w' => e = .returned (.int .u64 x) ∧ Blk w' C 96 cs' ∧ Apart C (C + 1) w w' := by
  have h' := h
  obtain ⟨rfl, bl, rbl, words, nc, kn⟩ := h
  by_cases hk : (k : Int) < n
  · have hn : n ≤ 32 := by omega
    obtain ⟨x, hx⟩ := words k (by omega)
    refine ⟨x, _, buf, s0, s1, s2, s3, n, c, k + 1, ⟨rfl, bl, rbl, words, nc, by omega⟩, fun C w hb => (cha_draw C k x bl hk hn hx w hb).mono fun e w' ⟨he, hw⟩ => ⟨he, ?_, ?_⟩⟩
    · subst hw
      have h2 := hb.set_ 36 (.int .u32 ((k : Int) + 1))
      rw [cha_set36 bl] at h2
      exact h2
    · subst hw
      exact (Apart.refl _ _ w).setCell (p := ⟨C, 36, none⟩) (.inl ⟨Nat.le_refl _, Nat.lt_succ_self _⟩) _
  · obtain ⟨cs', buf', t0, t1, t2, t3, n', c', ok', hn0, hf⟩ := refill_ok h'
    obtain ⟨x, hx⟩ := ok'.words 0 (by omega)
    have hn' : n' ≤ 32 := by have := ok'.nc; omega
    exact ⟨x, _, buf', t0, t1, t2, t3, n', c', 1, ⟨rfl, ok'.bl, ok'.rbl, ok'.words, ok'.nc, by omega⟩, fun C w hb => cha_draw2 C x _ cs' bl (by omega) rfl ok'.bl hn0 hn' hx ok'.eq (hf C) w hb⟩

/-- A new ChaCha8 is in good order. -/
theorem chaNew_ok (z : Nat → Int) : ChaOk (chaNew z) (chaBuf (keyWord z 0) (keyWord z 8) (keyWord z 16) (keyWord z 24) 0) (keyWord z 0) (keyWord z 8) (keyWord z 16) (keyWord z 24) 0 32 0 (List.replicate 8 (.int .u8 0)) 0 :=
  ⟨rfl, chaBuf_length _ _ _ _ _, List.length_replicate, chaBuf_words _ _ _ _ _, .inl ⟨.inl rfl, rfl⟩, by omega⟩

theorem cha_ans (z : Nat → Int) : ∃ x, GenAns 64 96 (chaNew z) x := by
  obtain ⟨x, cs', buf', t0, t1, t2, t3, n', c', k', _, h⟩ := cha_u64 (chaNew_ok z)
  exact ⟨x, fun G w hb => (h G w hb).mono fun e w' ⟨he, _, ha⟩ => ⟨he, ha⟩⟩

end Go.Proofs.Ytiofpkfcinfhiaa
