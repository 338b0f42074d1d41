/-
  The walk of the law FnRead: it returns true, and writes to memory of its own alone.
-/
import Derived.Test.YtiofpkfcinfhiaaKey
namespace Go.Proofs.Ytiofpkfcinfhiaa
open Go.RowKit

theorem build_key (a : Act) (d : Option Tmp) (y : Operand) (ty : TypeId) (pos : String) (af : Array Edge) (gd : Option (Nat × Bool)) (w : World) (h : KeyVal (a.eval y)) :
    (execOp a.eval ⟨d, .build 26 #[(2, .const (.int .i64 2)), (3, y)], ty, pos, af, gd⟩).run Try.prog w = .ok (.value (.agg (startOf (a.eval y)))) w := exec_key a.eval d y ty pos af gd w rfl h
theorem build_step (a : Act) (d : Option Tmp) (y : Operand) (ty : TypeId) (pos : String) (af : Array Edge) (gd : Option (Nat × Bool)) (w : World) (h : IntVal (a.eval y)) :
    (execOp a.eval ⟨d, .build 30 #[(0, .const (.int .i64 5)), (1, y)], ty, pos, af, gd⟩).run Try.prog w = .ok (.value (.agg (stepIs (a.eval y)))) w := exec_build a.eval d y ty pos af gd w rfl h

attribute [local go_sem] stepVal_agg stepIs_int intVal_int keyVal_agg startOf_agg
attribute [local go_sem ↓] exec_one build_step build_key

theorem stepOne_eq : (#[.int .i64 5, .int .i64 1, .int .u64 0, .int .u64 0, .slice none 0 0, .int .u8 0, .int .u8 0, .int .u8 0, .int .u8 0, .int .u8 0, .int .u8 0, .int .u8 0, .int .u8 0, .int .u8 0, .int .u8 0, .int .u8 0, .int .u8 0, .int .u8 0, .int .u8 0, .int .u8 0, .int .u8 0, .int .u8 0, .int .u8 0, .int .u8 0, .int .u8 0, .int .u8 0, .int .u8 0, .int .u8 0, .int .u8 0, .int .u8 0, .int .u8 0, .int .u8 0, .int .u8 0, .int .u8 0, .int .u8 0, .int .u8 0, .int .u8 0] : Array Value) = stepOf 5 1 := rfl

theorem own_parts {w : World} {base : Nat} {e : TypeId} {size n g cap : Nat} {xs : List Value} (h : w.ownsRow base e size (.slice (some ⟨g, 0, none⟩) n cap) n xs) : base ≤ g ∧ g < w.heap.size ∧ n ≤ cap := by
  rcases h.2 with ⟨h, _⟩ | ⟨g', cap', cur, hv, hb, hh, hc, _⟩
  · cases h
  · injection hv with hA _ hcap
    injection hA with hA
    injection hA with hA
    subst hA
    subst hcap
    exact ⟨hb, Blk.lt (t := e) hh, hc⟩

theorem flat_len (f : Nat → Array Value) (S m : Nat) (h : ∀ i, i < m → (f i).size = S) : (flat f m).length = m * S := by
  induction m with
  | zero => simp [flat]
  | succ m ih => rw [flat_succ, List.length_append, ih (fun i hi => h i (by omega)), Array.length_toList, h m (by omega), Nat.succ_mul]
theorem flat_get (f : Nat → Array Value) (S m : Nat) (h : ∀ i, i < m → (f i).size = S) (i j : Nat) (hi : i < m) (hj : j < S) : (flat f m)[i * S + j]? = (f i)[j]? := by
  induction m with
  | zero => omega
  | succ m ih =>
    have hl := flat_len f S m (fun i hi => h i (by omega))
    rw [flat_succ]
    by_cases him : i < m
    · have h1 : (i + 1) * S ≤ m * S := Nat.mul_le_mul_right S him
      rw [Nat.succ_mul] at h1
      rw [List.getElem?_append_left (by omega)]
      exact ih (fun i hi => h i (by omega)) him
    · obtain rfl : i = m := by omega
      rw [List.getElem?_append_right (by omega), hl, Nat.add_sub_cancel_left]
      simp
theorem own_range {w : World} {base : Nat} {e : TypeId} {S m g cap : Nat} {f : Nat → Array Value} (h : w.ownsRow base e S (.slice (some ⟨g, 0, none⟩) m cap) m (flat f m)) (hs : ∀ i, i < m → (f i).size = S) (i : Nat) (hi : i < m) : w.rangeAt g (i * S) (f i).toList := fun j v hv => by
  have hj : j < S := by have := (List.getElem?_eq_some_iff.1 hv).1; rw [Array.length_toList, hs i hi] at this; exact this
  have h1 : (i + 1) * S ≤ m * S := Nat.mul_le_mul_right S hi
  rw [Nat.succ_mul] at h1
  rw [h.cellAt (i * S + j) (by omega), flat_get f S m hs i j hi hj]
  simpa using hv
theorem own_turns {w : World} {base m g cap : Nat} (h : w.ownsRow base 4 1 (.slice (some ⟨g, 0, none⟩) m cap) m (turns m)) (i : Nat) (hi : i < m) : w.cell? ⟨g, 0 + i, none⟩ = some (.bool (decide (i % 2 = 1))) := by
  rw [Nat.zero_add, h.cellAt i (by omega)]
  simp [turns, hi]

/-- What holds at the head of a round of the loop that looks at the answers. -/
def LookRel (w3 : World) (m : Nat) (i : Value) (wr : World) : Prop := ∃ k : Nat, k ≤ m ∧ i = .int .i64 k ∧ Below w3.heap.size w3 wr

/-- What holds at the head of a round of the loop that makes the script. -/
def ScriptRel (lo : Nat) (W0 : World) (zs : List Int) (v i : Value) (wr : World) : Prop :=
  ∃ k : Nat, k ≤ zs.length ∧ i = .int .i64 k ∧ (∃ A c, v = .slice A (k + 1) c) ∧
    wr.ownsRow lo 30 37 v (k + 1) (flat (fun j => stepOf 5 (sizeAt zs j)) (k + 1)) ∧ Below lo W0 wr

set_option maxRecDepth 100000 in
set_option maxHeartbeats 2000000 in
theorem fnRead_any (z : Nat → Int) (A : Option Addr) (c : Nat) (zs : List Int) (hz : ∀ x ∈ zs, 0 ≤ x ∧ x ≤ 18446744073709551615) (hl : zs.length ≤ 1048576)
    (w : World) (hw : WordsFrom w A c zs) :
    Calls Try.prog 4 #[.agg (keyRow z), .slice A zs.length c] w fun e w' => e = .returned (.bool true) ∧ Below w.heap.size w w' := by
  have Hz := hide hz
  have Hw := hide hw
  clear hz hw
  have hs23 : (Try.prog.info? 23).map (·.size) = some (keyRow z).size := by rw [size23]; rfl
  have hs26 : (Try.prog.info? 26).map (·.size) = some (startKey z).size := by rw [size26]; rfl
  have Hs26 := hide hs26
  have Hs23 := hide hs23
  clear hs23 hs26
  have hst : (storeCells ⟨w.heap.size + 1, 0, none⟩ (startKey z).toList).run Try.prog ((w.alloc (.cells (keyRow z) 23)).alloc (.cells #[.int .u64 0, .int .u64 0, .int .i64 0, .int .u8 0, .int .u8 0, .int .u8 0, .int .u8 0, .int .u8 0, .int .u8 0, .int .u8 0, .int .u8 0, .int .u8 0, .int .u8 0, .int .u8 0, .int .u8 0, .int .u8 0, .int .u8 0, .int .u8 0, .int .u8 0, .int .u8 0, .int .u8 0, .int .u8 0, .int .u8 0, .int .u8 0, .int .u8 0, .int .u8 0, .int .u8 0, .int .u8 0, .int .u8 0, .int .u8 0, .int .u8 0, .int .u8 0, .int .u8 0, .int .u8 0, .int .u8 0, .bool false, .slice none 0 0] 26)) = .ok () ((w.alloc (.cells (keyRow z) 23)).alloc (.cells (startKey z) 26)) := by
    have h := run_store_row (w.heap.size + 1) 26 startZero (startKey z) ((w.alloc (.cells (keyRow z) 23)).alloc (.cells startZero 26)) (by have h := Blk.new (w.alloc (.cells (keyRow z) 23)) 26 startZero; rw [World.size_alloc] at h; exact h) rfl (startKey_ones z)
    have h2 := World.setRow_alloc_new (w.alloc (.cells (keyRow z) 23)) startZero (startKey z) 26
    rw [World.size_alloc] at h2
    rw [startZero_eq, h, h2]
  have hsk : (startKey z).size = 37 := rfl
  go_enter Try.func4, Try.ntmps4
  go_wp2_with (refine wpList_load_row rfl 23 (.tmp 2) rfl w.heap.size (by rfl) 23 (keyRow z) (0, 0) _ (by exact Blk.new w 23 (keyRow z)) Try.underlying23 rfl Hs23.out ?_)
  rw [stepOne_eq]
  have hB : Blk (((w.alloc (.cells (keyRow z) 23)).alloc (.cells (startKey z) 26)).alloc (.cells (stepOf 5 1) 30)) (w.heap.size + 1) 26 (startKey z) := by
    have h := (Blk.new (w.alloc (.cells (keyRow z) 23)) 26 (startKey z)).alloc (.cells (stepOf 5 1) 30)
    rw [World.size_alloc] at h
    exact h
  have hO : (((w.alloc (.cells (keyRow z) 23)).alloc (.cells (startKey z) 26)).alloc (.cells (stepOf 5 1) 30)).ownsRow (w.heap.size + 2) 30 37 (.slice (some ⟨w.heap.size + 1 + 1, 0, none⟩) 1 1) 1 (flat (fun j => stepOf 5 (sizeAt zs j)) 1) := by
    have h := World.ownsRow_lit (base := w.heap.size + 2) (e := 30) (size := 37) ((w.alloc (.cells (keyRow z) 23)).alloc (.cells (startKey z) 26)) (stepOf 5 1) 1 (by simp) (by simp [maxLen]) rfl
    rw [World.size_alloc, World.size_alloc] at h
    exact h
  have hbel : Below w.heap.size w (((w.alloc (.cells (keyRow z) 23)).alloc (.cells (startKey z) 26)).alloc (.cells (stepOf 5 1) 30)) := (((Below.refl _ w).alloc (Nat.le_refl _) _).alloc (by simp) _).alloc (by simp; omega) _
  have hsz0 : w.heap.size + 2 ≤ (((w.alloc (.cells (keyRow z) 23)).alloc (.cells (startKey z) 26)).alloc (.cells (stepOf 5 1) 30)).heap.size := by simp
  generalize ((w.alloc (.cells (keyRow z) 23)).alloc (.cells (startKey z) 26)).alloc (.cells (stepOf 5 1) 30) = W0 at hB hO hbel hsz0 ⊢
  have HB := hide hB
  have HO := hide hO
  have Hbel := hide hbel
  clear hB hO hbel hst hsk
  go_loopw [6, 20] (fun v i wr => ScriptRel (w.heap.size + 2) W0 zs v i wr) (fun _ i _ => zs.length - (intOf i).toNat)
  case atStart => exact ⟨0, Nat.zero_le _, rfl, ⟨_, _, rfl⟩, HO.out, Below.refl _ _⟩
  case round =>
    obtain ⟨k, hk, rfl, ⟨A1, c1, rfl⟩, hown, hb0⟩ := hrel
    have hwsz : W0.heap.size ≤ wr.heap.size := hb0.size
    have Hbw := hide (Hbel.out.trans (hb0.mono (by omega)))
    have Hown := hide hown
    have Hb0 := hide hb0
    clear hown hb0
    by_cases hlt : k < zs.length
    · have hws : WordsFrom wr A c zs := Hw.out.below Hbw.out
      rcases hws with ⟨_, _, h0⟩ | ⟨ad, rfl, _, hcw⟩
      · rw [h0] at hlt
        simp at hlt
      have wk : wr.cell? (ad.add k) = some (.int .u64 zs[k]) := hcw k _ (List.getElem?_eq_getElem hlt)
      have hy := Hz.out zs[k] (List.getElem_mem hlt)
      have Hst : Hid (sizeAt zs (k + 1) = (zs[k] % 4096).toNat) := by simp [Hid, sizeAt, hlt]
      clear hcw
      generalize zs[k] = y at wk hy Hst
      obtain ⟨hy0, hy1⟩ := hy
      obtain ⟨i0, hi, hz0, hz1, hz2⟩ := info_parts info30
      have Hi := hide hi
      have Hz0 := hide hz0
      have Hz1 := hide hz1
      have Hz2 := hide hz2
      clear hi hz0 hz1 hz2
      have HO1 : Hid ((wr.alloc (.cells (stepOf 5 (y % 4096)) 30)).ownsRow (w.heap.size + 2) 30 37 (.slice A1 (k + 1) c1) (k + 1) (flat (fun j => stepOf 5 (sizeAt zs j)) (k + 1))) := Hown.out.alloc _
      have Hnew : Hid (∀ j u, (stepOf 5 (y % 4096)).toList[j]? = some u → (wr.alloc (.cells (stepOf 5 (y % 4096)) 30)).cell? ((⟨wr.heap.size, 0, none⟩ : Addr).add j) = some u) := fun j u hu => by
        have hadd : (⟨wr.heap.size, 0, none⟩ : Addr).add j = ⟨wr.heap.size, j, none⟩ := by unfold Addr.add; split <;> simp_all
        rw [hadd, (Blk.new wr 30 (stepOf 5 (y % 4096))).cell j]
        simpa using hu
      have Hone : Hid (∀ u ∈ (stepOf 5 (y % 4096)).toList, u.oneCell' = true) := fun u hu => (Array.all_eq_true_iff_forall_mem.1 (stepOf_ones 5 (y % 4096))) u (by simpa using hu)
      go_wp2_with (at_builtin; refine wpList_append_own _ rfl (.tmp 24) (.tmp 29) _ rfl (w.heap.size + 2) 30 i0 _ 37 88 Try.underlying27 Hi.out Hz0.out Hz1.out Hz2.out rfl (by omega) (.slice A1 (k + 1) c1) (k + 1) _ rfl HO1.out ⟨wr.heap.size, 0, none⟩ 1 1 (stepOf 5 (y % 4096)).toList rfl rfl Hnew.out Hone.out (by simp only [maxLen]; omega) (by omega) (by simp; omega) ?_; intro v3 w3 hown3 hg3 hat3; have Hown3 := hide hown3; have Hg3 := hide hg3; clear hown3 hg3 hat3)
      refine ⟨⟨k + 1, by omega, by go_num, own_form Hown3.out, ?_, (Hb0.out.alloc (by omega) _).grown Hg3.out (by simp; omega) (fun g hg => own_block_ge HO1.out g hg)⟩, by simp [intOf]; omega⟩
      rw [flat_succ _ (k + 1), Hst.out, show (((y % 4096).toNat : Nat) : Int) = y % 4096 by omega]
      exact Hown3.out
    · obtain rfl : k = zs.length := by omega
      obtain ⟨g, rfl⟩ := own_some Hown.out (by omega)
      obtain ⟨_, hgw, hcap⟩ := own_parts Hown.out
      have Hc8 := hide (doubled_read g 0 (zs.length + 1) c1 hcap (by omega) (fun i => (sizeAt zs i : Int)) wr hgw (fun i hi => by rw [Nat.zero_add]; exact own_range Hown.out (fun _ _ => rfl) i hi))
      have HB1 := hide (HB.out.below Hb0.out (by omega))
      clear HB HO Hbel Hown Hb0
      go_wp2_with fail
      refine Hc8.out.mono ?_
      clear Hc8
      rintro e w1 ⟨A2, c2, A3, c3, rfl, hown2, hown3, hb1⟩
      have h2m : 2 * (zs.length + 1) % 2 = 0 := by omega
      have hmm : 0 < 2 * (zs.length + 1) := by omega
      have hml : 2 * (zs.length + 1) ≤ 4194304 := by omega
      generalize 2 * (zs.length + 1) = m at hown2 hown3 h2m hmm hml ⊢
      obtain ⟨g2, rfl⟩ := own_some hown2 hmm
      obtain ⟨g3, rfl⟩ := own_some hown3 hmm
      obtain ⟨_, hgw2, hcap2⟩ := own_parts hown2
      obtain ⟨_, hgw3, hcap3⟩ := own_parts hown3
      have HB2 := hide (HB1.out.below hb1 HB1.out.lt)
      have Hbw1 := hide (Hbw.out.trans (hb1.mono Hbw.out.size))
      have Hr2 : Hid (∀ i, i < m → w1.rangeAt g2 (i * 37) (stepOf 5 (sizeAt zs (i / 2))).toList) := fun i hi => own_range hown2 (fun _ _ => rfl) i hi
      have Hr3 : Hid (∀ i, i < m → w1.cell? ⟨g3, 0 + i, none⟩ = some (.bool (decide (i % 2 = 1)))) := fun i hi => own_turns hown3 i hi
      have H2m := hide h2m
      clear hown2 hown3 hb1 HB1 Hbw h2m
      go_wp2_with (refine wpList_load_row rfl 26 (.tmp 5) rfl (w.heap.size + 1) (by rfl) 26 (startKey z) (0, 0) _ (by exact HB2.out) Try.underlying26 rfl Hs26.out ?_)
      refine (playTwo_read (startKey z) z _ (startKey_is z) g2 0 m c2 g3 0 c3 hcap2 hcap3 hml (gens z (sizeAt zs)) (sizeAt zs) w1 hgw2 hgw3 (fun i hi => by rw [Nat.zero_add]; exact Hr2.out i hi) Hr3.out (sizeAt_le zs) rfl (gens_ok z _) (fun _ => rfl)).mono ?_
      rintro e w2 ⟨A4, c4, Bs, rfl, hown4, hBs, hb2⟩
      have HBs : Hid (∀ j, j < m → Blk w2 (Bs j) 5 ((gens z (sizeAt zs) (j / 2)).bytes (sizeAt zs (j / 2))).toArray) := fun j hj => (hBs j hj).2
      have Hown4 := hide hown4
      have Hb2 := hide hb2
      clear hown4 hBs hb2 HB2
      have Hbw2 := hide (Hbw1.out.trans (Hb2.out.mono Hbw1.out.size))
      go_wp2_with fail
      refine (twins_read _ A4 m c4 H2m.out hml (sizeAt zs) Bs (gens z (sizeAt zs)) (gens_ok z _) w2 Hown4.out HBs.out).mono ?_
      rintro e w3 ⟨rfl, hb3⟩
      have hO4 : w3.ownsRow w1.heap.size 37 8 (.slice A4 m c4) m (flat (fun j => ansRead (sizeAt zs (j / 2)) (Bs j)) m) := own_apart (lo := w2.heap.size) (hi := w1.heap.size) Hown4.out (Apart.of_below hb3) (Nat.le_refl _)
      obtain ⟨g4, rfl⟩ := own_some hO4 hmm
      obtain ⟨_, hgw4, hcap4⟩ := own_parts hO4
      have Hr4 : Hid (∀ i, i < m → w3.rangeAt g4 (i * 8) (ansRead (sizeAt zs (i / 2)) (Bs i)).toList) := fun i hi => own_range hO4 (fun _ _ => rfl) i hi
      have hb13 : Below w1.heap.size w1 w3 := Hb2.out.trans (hb3.mono Hb2.out.size)
      have Hr5 : Hid (∀ i, i < m → w3.cell? ⟨g2, i * 37 + 1, none⟩ = some (.int .i64 (sizeAt zs (i / 2)))) := fun i hi => (hb13.cell (p := ⟨g2, i * 37 + 1, none⟩) hgw2).trans (Hr2.out i hi 1 _ rfl)
      have hgw5 : g2 < w3.heap.size := by have := hb13.size; omega
      have Hbw3 := hide (Hbw2.out.trans (hb3.mono Hbw2.out.size))
      have Hsz37 : Hid ((Try.prog.info? 37).map (·.size) = some 8) := size37
      clear hO4 hb13 hb3 Hown4 HBs Hb2 Hr2 Hr3 Hbw2 Hbw1
      go_wp2_with fail
      go_loopw [54] (fun i wr => LookRel w3 m i wr) (fun i _ => m - (intOf i).toNat)
      case atStart => exact ⟨0, Nat.zero_le _, rfl, Below.refl _ _⟩
      case round =>
        obtain ⟨k, hk, rfl, hb0⟩ := hrel
        have hz3 : w3.heap.size ≤ wr.heap.size := hb0.size
        have Hb0 := hide hb0
        clear hb0
        by_cases hlt2 : k < m
        · have hn5 : wr.cell? ⟨g2, k * 37 + 1, none⟩ = some (.int .i64 (sizeAt zs (k / 2))) := (Hb0.out.cell (p := ⟨g2, k * 37 + 1, none⟩) hgw5).trans (Hr5.out k hlt2)
          have Hld : Hid (wr.rangeAt g4 (k * 8) (ansRead (sizeAt zs (k / 2)) (Bs k)).toList) := fun j v hv => (Hb0.out.cell (p := ⟨g4, k * 8 + j, none⟩) hgw4).trans (Hr4.out k hlt2 j v hv)
          generalize sizeAt zs (k / 2) = n at hn5 Hld
          obtain ⟨AN, hAN⟩ : ∃ AN, ansRead n (Bs k) = AN := ⟨_, rfl⟩
          have a8 : AN.size = 8 := by rw [← hAN]; rfl
          have a1 : AN[1]? = some (.int .i64 n) := by rw [← hAN]; rfl
          have a5 : AN[5]? = some (.slice (some ⟨Bs k, 0, none⟩) n n) := by rw [← hAN]; rfl
          have a6 : AN[6]? = some (.bool false) := by rw [← hAN]; rfl
          have hone : AN.all (·.oneCell') = true := by rw [← hAN]; exact ansRead_one _ _
          rw [hAN] at Hld
          have Hsz : Hid ((Try.prog.info? 37).map (·.size) = some AN.toList.length) := by rw [Array.length_toList, a8]; exact Hsz37.out
          have hst : (storeCells ⟨wr.heap.size, 0, none⟩ AN.toList).run Try.prog (wr.alloc (.cells #[.int .u64 0, .int .i64 0, .slice none 0 0, .slice none 0 0, .float .f64 0, .slice none 0 0, .bool false, .bool false] 37)) = .ok () (wr.alloc (.cells AN 37)) := by
            rw [ansZero_eq, run_store_row wr.heap.size 37 ansZero AN _ (Blk.new wr 37 ansZero) a8.symm hone, World.setRow_alloc_new]
          have hg2n : ¬ g2 = wr.heap.size := by omega
          clear hone hAN
          go_wp2_with (refine wpList_load_mid rfl 37 (.tmp 57) rfl g4 (k * 8) rfl AN.toList _ Hld.out Try.underlying37 rfl Hsz.out ?_)
          clear hst a8
          have hn6 : (wr.alloc (.cells AN 37)).cell? ⟨g2, k * 37 + 1, none⟩ = some (.int .i64 n) := (((Below.refl _ wr).alloc (Nat.le_refl _) _).cell (p := ⟨g2, k * 37 + 1, none⟩) (by show g2 < wr.heap.size; omega)).trans hn5
          go_quiet (fail)
          go_wp2
          exact ⟨⟨k + 1, by omega, by go_num, below_drewN (Hb0.out.alloc hz3 _) _⟩, by simp [intOf]; omega⟩
        · obtain rfl : k = m := by omega
          go_wp2
          go_ret
          exact ⟨rfl, Hbw3.out.trans (Hb0.out.mono Hbw3.out.size)⟩

end Go.Proofs.Ytiofpkfcinfhiaa
