/-
  The walk of the law FnOwnWords: it returns true, and writes to memory of its own alone.
-/
import Derived.Test.YtiofpkfcinfhiaaGames
import Derived.Laws.MakeOwn
namespace Go.Proofs.Ytiofpkfcinfhiaa
open Go.RowKit

theorem info30 : (Try.prog.info? 30).map (fun i => (i.zero, i.size, i.bytes)) = some (some (.agg (stepOf 0 0)), 37, 88) := by kernel_rfl

/-- make([]Step, n): its cells. -/
theorem made_step (n i j : Nat) (hi : i < n) (hj : j < 37) : (madeCells (stepOf 0 0) (n * 37))[i * 37 + j]? = (stepOf 0 0)[j]? := by
  unfold madeCells
  have h1 : i * 37 + j < n * 37 := by omega
  have h37 : (stepOf 0 0).size = 37 := rfl
  have h2 : (i * 37 + j) % 37 = j := by omega
  rw [Array.getElem?_map, Array.getElem?_range, if_pos h1]
  simp only [Option.map_some, h37, h2]
  rw [getElem!_pos (stepOf 0 0) j (by rw [h37]; exact hj), Array.getElem?_eq_getElem (by rw [h37]; exact hj)]

/-- The script's cells in the k-th round: the first k steps are of the kind Uint64. -/
def ScriptAt (n k : Nat) (arr : Array Value) : Prop := arr.size = n * 37 ∧ ∀ i j, i < n → j < 37 → arr[i * 37 + j]? = if i < k then (stepOf 6 0)[j]? else (stepOf 0 0)[j]?

theorem script_next {n k : Nat} {arr : Array Value} (h : ScriptAt n k arr) (hk : k < n) : ScriptAt n (k + 1) (arr.setIfInBounds (k * 37) (.int .i64 6)) := by
  refine ⟨by simpa using h.1, fun i j hi hj => ?_⟩
  rw [Array.getElem?_setIfInBounds]
  by_cases e : k * 37 = i * 37 + j
  · have : i = k ∧ j = 0 := by omega
    obtain ⟨rfl, rfl⟩ := this
    rw [if_pos e, if_pos (by rw [h.1]; omega), if_pos (by omega)]
    rfl
  · rw [if_neg e, h.2 i j hi hj]
    by_cases hik : i = k
    · subst hik
      have hj0 : j ≠ 0 := by omega
      rw [if_neg (by omega), if_pos (by omega)]
      match j, hj0 with
      | j + 1, _ => rfl
    · by_cases h1 : i < k
      · rw [if_pos h1, if_pos (by omega)]
      · rw [if_neg h1, if_neg (by omega)]

theorem start_own {SC : Array Value} {one two kind : Int} {z : Nat → Int} {own : Bool} {wv : Value} (h : StartIs SC one two kind z own wv) : StartIs (SC.setIfInBounds 35 (.bool true)) one two kind z true wv := by
  have hs := h.size
  refine ⟨by simpa using hs, ?_, ?_, ?_, fun j hj => ?_, ?_, ?_⟩
  · rw [Array.getElem?_setIfInBounds_ne (by omega)]; exact h.c0
  · rw [Array.getElem?_setIfInBounds_ne (by omega)]; exact h.c1
  · rw [Array.getElem?_setIfInBounds_ne (by omega)]; exact h.c2
  · rw [Array.getElem?_setIfInBounds_ne (by omega)]; exact h.key j hj
  · rw [Array.getElem?_setIfInBounds_self_of_lt (by omega)]
  · rw [Array.getElem?_setIfInBounds_ne (by omega)]; exact h.c36

theorem own_some {w : World} {base : Nat} {e : TypeId} {size n c : Nat} {A : Option Addr} {xs : List Value} (h : w.ownsRow base e size (.slice A n c) n xs) (hn : 0 < n) : ∃ g, A = some ⟨g, 0, none⟩ := by
  rcases h.2 with ⟨_, h0⟩ | ⟨g, cap, cur, hv, _⟩
  · omega
  · injection hv with hA
    exact ⟨g, hA⟩

/-- What holds at the head of a round of the loop that makes the script. -/
def MakeRel (S n : Nat) (W0 : World) (i : Value) (wr : World) : Prop := ∃ k : Nat, k ≤ n ∧ i = .int .i64 k ∧ ∃ arr, Blk wr S 30 arr ∧ ScriptAt n k arr ∧ Below S W0 wr

set_option maxRecDepth 100000 in
set_option maxHeartbeats 2000000 in
theorem ownWords_any (SC : Array Value) (one two : Nat) (kind : Int) (z : Nat → Int) (own : Bool) (A : Option Addr) (c : Nat) (ws : List Int) (hs : StartIs SC one two kind z own (.slice A ws.length c)) (h2 : two < 18446744073709551616) (hl : ws.length ≤ 1048576)
    (w : World) (hw : WordsFrom w A c ws) :
    Calls Try.prog 3 #[.agg SC] w fun e w' => e = .returned (.bool true) ∧ Below w.heap.size w w' := by
  have k35 := hs.c35
  have k36 := hs.c36
  obtain ⟨i0, hi, hz0, hz1, hz2⟩ := info_parts info30
  have hmk : ∀ W : World, (Instr.makeSlice 27 (.int .i64 ((ws.length : Int) + 1)) (.int .i64 ((ws.length : Int) + 1))).run Try.prog W = .ok (.slice (some ⟨W.heap.size, 0, none⟩) (ws.length + 1) (ws.length + 1)) (W.alloc (.cells (madeCells (stepOf 0 0) ((ws.length + 1) * 37)) 30)) := fun W => by
    have h := run_make (P := Try.prog) W 27 30 i0 (.agg (stepOf 0 0)) Try.underlying27 hi hz0 .i64 .i64 ((ws.length : Int) + 1) ((ws.length : Int) + 1) (by omega) (by omega) (by rw [hz2]; omega) (by omega)
    rw [hz1, show ((ws.length : Int) + 1).toNat = ws.length + 1 by omega] at h
    exact h
  have Hs := hide hs
  have Hw := hide hw
  clear hs hw hi hz0 hz1 hz2
  go_enter Try.func3, Try.ntmps3
  go_wp2_with fail
  have hS : Blk ((w.alloc (.cells (SC.setIfInBounds 35 (.bool true)) 26)).alloc (.cells (madeCells (stepOf 0 0) ((ws.length + 1) * 37)) 30)) (w.heap.size + 1) 30 (madeCells (stepOf 0 0) ((ws.length + 1) * 37)) := by
    have h := Blk.new (w.alloc (.cells (SC.setIfInBounds 35 (.bool true)) 26)) 30 (madeCells (stepOf 0 0) ((ws.length + 1) * 37))
    rw [World.size_alloc] at h
    exact h
  have hB : Blk ((w.alloc (.cells (SC.setIfInBounds 35 (.bool true)) 26)).alloc (.cells (madeCells (stepOf 0 0) ((ws.length + 1) * 37)) 30)) w.heap.size 26 (SC.setIfInBounds 35 (.bool true)) := (Blk.new w 26 _).alloc _
  have hbel : Below w.heap.size w ((w.alloc (.cells (SC.setIfInBounds 35 (.bool true)) 26)).alloc (.cells (madeCells (stepOf 0 0) ((ws.length + 1) * 37)) 30)) := ((Below.refl _ w).alloc (Nat.le_refl _) _).alloc (by simp) _
  generalize (w.alloc (.cells (SC.setIfInBounds 35 (.bool true)) 26)).alloc (.cells (madeCells (stepOf 0 0) ((ws.length + 1) * 37)) 30) = W0 at hS hB hbel ⊢
  have HS := hide hS
  have HB := hide hB
  have Hbel := hide hbel
  clear hS hB hbel hmk k35 k36
  go_loopw [19] (fun i wr => MakeRel (w.heap.size + 1) (ws.length + 1) W0 i wr) (fun i _ => ws.length + 1 - (intOf i).toNat)
  case atStart => exact ⟨0, Nat.zero_le _, rfl, _, HS.out, ⟨size_madeCells _ _, fun i j hi hj => by rw [if_neg (by omega)]; exact made_step _ i j hi hj⟩, Below.refl _ _⟩
  case round =>
    obtain ⟨k, hk, rfl, arr, hbk, hsc, hbl⟩ := hrel
    by_cases hlt : k < ws.length + 1
    · have hcell : wr.cell? ⟨w.heap.size + 1, k * 37, none⟩ = some (.int .i64 0) := (hbk.cell (k * 37)).trans (by have h := hsc.2 k 0 hlt (by omega); rw [if_neg (by omega)] at h; exact h)
      have hfr := hbk.frozen (k * 37)
      have Hbk := hide hbk
      have Hsc := hide hsc
      have Hbl := hide hbl
      clear hbk hsc hbl
      go_wp2
      exact ⟨⟨k + 1, by omega, by go_num, _, Hbk.out.set_ _ _, script_next Hsc.out hlt, Hbl.out.setCell (p := ⟨w.heap.size + 1, k * 37, none⟩) (Nat.le_refl _) _⟩, by simp [intOf]; omega⟩
    · obtain rfl : k = ws.length + 1 := by omega
      have hst : ∀ i, i < ws.length + 1 → wr.rangeAt (w.heap.size + 1) (0 + i * 37) (stepOf 6 0).toList := fun i hi j v hv => by
        have hj : j < 37 := by have := (List.getElem?_eq_some_iff.1 hv).1; simpa [stepOf] using this
        rw [Nat.zero_add, hbk.cell, hsc.2 i j hi hj, if_pos hi]
        simpa using hv
      have hB1 : Blk wr w.heap.size 26 (SC.setIfInBounds 35 (.bool true)) := HB.out.below hbl (Nat.lt_succ_self _)
      have hbw : Below w.heap.size w wr := Hbel.out.trans (hbl.mono (Nat.le_succ _))
      have hws : WordsFrom wr A c ws := Hw.out.below hbw
      have hs1 : StartIs (SC.setIfInBounds 35 (.bool true)) one two kind z true (.slice A ws.length c) := start_own Hs.out
      have hlt1 : w.heap.size + 1 < wr.heap.size := hbk.lt
      have hsz26 : (Try.prog.info? 26).map (·.size) = some (SC.setIfInBounds 35 (.bool true)).size := by rw [size26, hs1.size]
      obtain ⟨T, f, t, cs, x, hT, hx, hstart⟩ := started_own _ one two kind z A c ws hs1 h2 (by omega)
      have hc1 := play_words _ hs1.size A c ws hl T f t cs x hT hx hstart (w.heap.size + 1) 0 (ws.length + 1) (Nat.le_refl _) wr hws hlt1 hst
      have HB1 := hide hB1
      have Hbw := hide hbw
      have Hws := hide hws
      have Hc1 := hide hc1
      have HT := hide hT
      have Hx := hide hx
      have Hstart := hide hstart
      have Hs1 := hide hs1
      have hg36 := hs1.c36
      clear hst hB1 hbw hws hc1 hT hx hstart hs1 hbk hsc hbl HS HB Hbel
      go_wp2_with (refine wpList_load_row rfl 26 (.tmp 1) rfl w.heap.size (by rfl) 26 (SC.setIfInBounds 35 (.bool true)) (0, 0) _ (by exact HB1.out) Try.underlying26 rfl hsz26 ?_)
      refine Hc1.out.mono ?_
      rintro e w1 ⟨A1, c1, rfl, hown1, hb1⟩
      have HB2 := hide (HB1.out.below hb1 (by omega))
      have Hown1 := hide hown1
      have Hb1 := hide hb1
      clear hown1 hb1 Hc1 HB1
      go_wp2_with (refine wpList_load_row rfl 26 (.tmp 1) rfl w.heap.size (by rfl) 26 (SC.setIfInBounds 35 (.bool true)) (0, 0) _ (by exact HB2.out) Try.underlying26 rfl hsz26 ?_)
      rw [stepZero_eq]
      have hc2 := play_first _ Hs1.out.size A c ws T f t cs x HT.out Hx.out Hstart.out w1.heap.size 0 1 (Nat.le_refl _) (w1.alloc (.cells (stepOf 0 0) 30)) ((Hws.out.below Hb1.out).below ((Below.refl _ w1).alloc (Nat.le_refl _) _)) (by simp) (fun j v hv => by rw [Nat.zero_add, (Blk.new w1 30 (stepOf 0 0)).cell j]; simpa using hv)
      refine hc2.mono ?_
      clear hc2
      rintro e w2 ⟨A2, c2, rfl, hown2, hb2⟩
      have hb12 : Below w1.heap.size w1 w2 := ((Below.refl _ w1).alloc (Nat.le_refl _) _).trans (hb2.mono (by simp))
      have hown1 : w2.ownsRow wr.heap.size 37 8 (.slice A1 (ws.length + 1) c1) (ws.length + 1) (flat (fun i => ansWord (ownWord ws x i)) (ws.length + 1)) := own_apart (lo := w1.heap.size) (hi := wr.heap.size) Hown1.out (Apart.of_below hb12) (Nat.le_refl _)
      have hsz1 : wr.heap.size ≤ w1.heap.size := Hb1.out.size
      have hbf : Below w.heap.size w w2 := Hbw.out.trans ((Hb1.out.trans (hb12.mono hsz1)).mono (by omega))
      have hB3 : Blk w2 w.heap.size 26 (SC.setIfInBounds 35 (.bool true)) := HB2.out.below hb12 HB2.out.lt
      have hww : WordsFrom w2 A c ws := Hw.out.below hbf
      obtain ⟨g1, rfl⟩ := own_some hown1 (by omega)
      obtain ⟨g2, rfl⟩ := own_some hown2 (by omega)
      have a1 : ∀ i, i < ws.length + 1 → w2.cell? ⟨g1, i * 8, none⟩ = some (.int .u64 (ownWord ws x i)) := fun i hi => by
        rw [hown1.cellAt (i * 8) (by omega)]
        have h := flat_at (fun i => ansWord (ownWord ws x i)) (ws.length + 1) (fun _ _ => rfl) i 0 hi (by omega)
        simpa [ansWord] using h
      have a2 : w2.cell? ⟨g2, 0, none⟩ = some (.int .u64 x) := by
        rw [hown2.cellAt 0 (by omega)]
        have h := flat_at (fun _ => ansWord x) 1 (fun _ _ => rfl) 0 0 (by omega) (by omega)
        simpa [ansWord] using h
      have b36 : w2.cell? ⟨w.heap.size, 36, none⟩ = some (.slice A ws.length c) := (hB3.cell 36).trans hg36
      have an : w2.cell? ⟨g1, ws.length * 8, none⟩ = some (.int .u64 x) := by
        have h := a1 ws.length (by omega)
        rw [show ownWord ws x ws.length = x by simp [ownWord]] at h
        exact h
      have Ha1 := hide a1
      have Hbf := hide hbf
      have Hww := hide hww
      clear hown1 hown2 hb2 hb12 hbf hB3 hww a1 HB2 Hown1 Hb1 Hbw Hws HT Hx Hstart Hs1 Hs Hw hg36 hsz26 hlt1 hsz1
      go_wp2_with fail
      go_loop [47] (fun i => ∃ k : Nat, k ≤ ws.length ∧ i = .int .i64 k) (fun i => ws.length - (intOf i).toNat)
      case atStart => exact ⟨0, Nat.zero_le _, rfl⟩
      case round =>
        obtain ⟨k, hk, rfl⟩ := hrel
        by_cases hlt2 : k < ws.length
        · have hwk : ownWord ws x k = ws[k] := by simp [ownWord, hlt2]
          have ck := Ha1.out k (by omega)
          rw [hwk] at ck
          rcases Hww.out with ⟨_, _, h0⟩ | ⟨ad, rfl, _, hcw⟩
          · rw [h0] at hlt2
            simp at hlt2
          have wk : w2.cell? (ad.add k) = some (.int .u64 ws[k]) := hcw k _ (List.getElem?_eq_getElem hlt2)
          clear hcw hwk
          generalize ws[k] = y at ck wk
          go_wp2
          exact ⟨⟨k + 1, by omega, by go_num⟩, by simp [intOf]; omega⟩
        · obtain rfl : k = ws.length := by omega
          go_wp2
          go_quiet (fail)
          go_wp2
          go_ret
          exact ⟨by simp, below_drewN Hbf.out _⟩

end Go.Proofs.Ytiofpkfcinfhiaa
