/-
  A ChaCha8 without its read buffer, as a state: a draw follows from the state alone, whatever lies in the read buffer.
-/
import Derived.Test.YtiofpkfcinfhiaaDraw
namespace Go.Proofs.Ytiofpkfcinfhiaa
open Go.RowKit

structure Core where
  buf : List Value
  s0 : Int
  s1 : Int
  s2 : Int
  s3 : Int
  k : Nat
  n : Int
  c : Int

def Core.cells (r : Core) (rb : List Value) (rl : Int) : Array Value := chaCells r.buf r.s0 r.s1 r.s2 r.s3 r.k r.n r.c rb rl

structure Core.Ok (r : Core) : Prop where
  bl : r.buf.length = 32
  words : ∀ j, j < 32 → ∃ x : Int, r.buf[j]? = some (.int .u64 x)
  nc : ((r.c = 0 ∨ r.c = 4 ∨ r.c = 8) ∧ r.n = 32) ∨ (r.c = 12 ∧ r.n = 28)
  kn : (r.k : Int) ≤ r.n

theorem core_refill (r : Core) (h : r.Ok) : ∃ r' : Core, r'.Ok ∧ r'.k = 0 ∧ 0 < r'.n ∧ ∀ (rb : List Value) (rl : Int), rb.length = 8 → ∀ (C : Nat) (w : World), Blk w C 96 (r.cells rb rl) →
      Calls Try.prog 69 #[.pointer (some ⟨C, 0, none⟩)] w fun e w' => e = .returned (.tuple #[]) ∧ Blk w' C 96 (r'.cells rb rl) ∧ Apart C (C + 1) w w' := by
  obtain ⟨buf, s0, s1, s2, s3, k, n, c⟩ := r
  obtain ⟨bl, words, nc, kn⟩ := h
  simp only at bl words nc kn
  rcases nc with ⟨h048, rfl⟩ | ⟨rfl, rfl⟩
  · by_cases h8 : c = 8
    · subst h8
      exact ⟨⟨chaBuf s0 s1 s2 s3 12, s0, s1, s2, s3, 0, 28, 12⟩, ⟨chaBuf_length _ _ _ _ _, chaBuf_words _ _ _ _ _, .inr ⟨rfl, rfl⟩, by simp⟩, rfl, by simp, fun rb rl hr C w hb => refill_mid C bl hr w hb⟩
    · exact ⟨⟨chaBuf s0 s1 s2 s3 (c + 4), s0, s1, s2, s3, 0, 32, c + 4⟩, ⟨chaBuf_length _ _ _ _ _, chaBuf_words _ _ _ _ _, .inl ⟨by simp only; omega, rfl⟩, by simp⟩, rfl, by simp, fun rb rl hr C w hb => refill_low C bl hr (by omega) (by omega) w hb⟩
  · obtain ⟨x0, h0⟩ := words 28 (by omega)
    obtain ⟨x1, h1⟩ := words 29 (by omega)
    obtain ⟨x2, h2⟩ := words 30 (by omega)
    obtain ⟨x3, h3⟩ := words 31 (by omega)
    exact ⟨⟨chaBuf x0 x1 x2 x3 0, x0, x1, x2, x3, 0, 32, 0⟩, ⟨chaBuf_length _ _ _ _ _, chaBuf_words _ _ _ _ _, .inl ⟨.inl rfl, rfl⟩, by simp⟩, rfl, by simp, fun rb rl hr C w hb => refill_top C bl hr h0 h1 h2 h3 w hb⟩

theorem core_u64 (r : Core) (h : r.Ok) : ∃ q : Int × Core, q.2.Ok ∧ ∀ (rb : List Value) (rl : Int), rb.length = 8 → ∀ (C : Nat) (w : World), Blk w C 96 (r.cells rb rl) →
      Calls Try.prog 64 #[.pointer (some ⟨C, 0, none⟩)] w fun e w' => e = .returned (.int .u64 q.1) ∧ Blk w' C 96 (q.2.cells rb rl) ∧ Apart C (C + 1) w w' := by
  by_cases hk : (r.k : Int) < r.n
  · have hn : r.n ≤ 32 := by have := h.nc; omega
    obtain ⟨x, hx⟩ := h.words r.k (by omega)
    refine ⟨(x, { r with k := r.k + 1 }), ⟨h.bl, h.words, h.nc, by simp only; omega⟩, fun rb rl hr C w hb => (cha_draw C r.k x h.bl hk hn hx w hb).mono fun e w' ⟨he, hw⟩ => ⟨he, ?_, ?_⟩⟩
    · subst hw
      have h2 := hb.set_ 36 (.int .u32 ((r.k : Int) + 1))
      unfold Core.cells at h2
      rw [cha_set36 h.bl] at h2
      exact h2
    · subst hw
      exact (Apart.refl _ _ w).setCell (p := ⟨C, 36, none⟩) (.inl ⟨Nat.le_refl _, Nat.lt_succ_self _⟩) _
  · obtain ⟨r', ok', hk0, hn0, hf⟩ := core_refill r h
    obtain ⟨x, hx⟩ := ok'.words 0 (by omega)
    have hn' : r'.n ≤ 32 := by have := ok'.nc; omega
    refine ⟨(x, { r' with k := 1 }), ⟨ok'.bl, ok'.words, ok'.nc, by simp only; omega⟩, fun rb rl hr C w hb => ?_⟩
    exact cha_draw2 C x (r.cells rb rl) (r'.cells rb rl) h.bl (by omega) rfl ok'.bl hn0 hn' hx (by unfold Core.cells; rw [hk0]) (fun w hb => hf rb rl hr C w hb) w hb

open Classical in
/-- A draw: the word, and the state behind it. -/
noncomputable def drawWord (r : Core) : Int × Core := if h : r.Ok then Classical.choose (core_u64 r h) else (0, r)

theorem drawWord_ok {r : Core} (h : r.Ok) : (drawWord r).2.Ok := by
  unfold drawWord
  rw [dif_pos h]
  exact (Classical.choose_spec (core_u64 r h)).1
theorem drawWord_calls {r : Core} (h : r.Ok) (rb : List Value) (rl : Int) (hr : rb.length = 8) (C : Nat) (w : World) (hb : Blk w C 96 (r.cells rb rl)) :
    Calls Try.prog 64 #[.pointer (some ⟨C, 0, none⟩)] w fun e w' => e = .returned (.int .u64 (drawWord r).1) ∧ Blk w' C 96 ((drawWord r).2.cells rb rl) ∧ Apart C (C + 1) w w' := by
  unfold drawWord
  rw [dif_pos h]
  exact (Classical.choose_spec (core_u64 r h)).2 rb rl hr C w hb

/-- A new ChaCha8's state. -/
def coreNew (z : Nat → Int) : Core := ⟨chaBuf (keyWord z 0) (keyWord z 8) (keyWord z 16) (keyWord z 24) 0, keyWord z 0, keyWord z 8, keyWord z 16, keyWord z 24, 0, 32, 0⟩
theorem coreNew_ok (z : Nat → Int) : (coreNew z).Ok := ⟨chaBuf_length _ _ _ _ _, chaBuf_words _ _ _ _ _, .inl ⟨.inl rfl, rfl⟩, by simp [coreNew]⟩
theorem coreNew_cells (z : Nat → Int) : chaNew z = (coreNew z).cells (List.replicate 8 (.int .u8 0)) 0 := rfl

end Go.Proofs.Ytiofpkfcinfhiaa
