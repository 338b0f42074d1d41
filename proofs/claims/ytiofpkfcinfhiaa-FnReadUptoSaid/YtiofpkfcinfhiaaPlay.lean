/-
  The walk of Play, over whatever start and step.
-/
import Derived.Test.YtiofpkfcinfhiaaStarted
import Derived.Deep.WholeRow
namespace Go.Proofs.Ytiofpkfcinfhiaa
open Go.RowKit

theorem size26 : (Try.prog.info? 26).map (·.size) = some 37 := by kernel_rfl
theorem info37 : (Try.prog.info? 37).map (fun i => (i.zero, i.size, i.bytes)) = some (some (.agg ansZero), 8, 104) := by kernel_rfl
theorem stepZero_eq : (#[.int .i64 0, .int .i64 0, .int .u64 0, .int .u64 0, .slice none 0 0,
  .int .u8 0, .int .u8 0, .int .u8 0, .int .u8 0, .int .u8 0, .int .u8 0, .int .u8 0, .int .u8 0, .int .u8 0, .int .u8 0, .int .u8 0, .int .u8 0, .int .u8 0, .int .u8 0, .int .u8 0, .int .u8 0,
  .int .u8 0, .int .u8 0, .int .u8 0, .int .u8 0, .int .u8 0, .int .u8 0, .int .u8 0, .int .u8 0, .int .u8 0, .int .u8 0, .int .u8 0, .int .u8 0, .int .u8 0, .int .u8 0, .int .u8 0, .int .u8 0] : Array Value) = stepOf 0 0 := rfl

/-- The answers' cells, one answer behind the other. -/
def flat (Ans : Nat → Array Value) (k : Nat) : List Value := (List.range k).flatMap fun i => (Ans i).toList
theorem flat_succ (Ans : Nat → Array Value) (k : Nat) : flat Ans (k + 1) = flat Ans k ++ (Ans k).toList := by simp [flat, List.range_succ]

theorem array8 (a : Array Value) (h : a.size = 8) : ∃ a0 a1 a2 a3 a4 a5 a6 a7, a = #[a0, a1, a2, a3, a4, a5, a6, a7] := by
  obtain ⟨l⟩ := a
  match l, h with
  | [a0, a1, a2, a3, a4, a5, a6, a7], _ => exact ⟨a0, a1, a2, a3, a4, a5, a6, a7, rfl⟩

theorem own_apart {lo hi base : Nat} {w w' : World} {e : TypeId} {size n : Nat} {v : Value} {xs : List Value} (h : w.ownsRow base e size v n xs) (ha : Apart lo hi w w') (hb : hi ≤ base) : w'.ownsRow base e size v n xs := by
  refine ⟨h.1, ?_⟩
  rcases h.2 with h2 | ⟨g, cap, cur, hv, hg, hh, r⟩
  · exact .inl h2
  · exact .inr ⟨g, cap, cur, hv, hg, (Blk.apart (t := e) hh ha (.inr (by omega))), r⟩

theorem own_block_ge {base : Nat} {w : World} {e : TypeId} {size n : Nat} {v : Value} {xs : List Value} (h : w.ownsRow base e size v n xs) (g : Nat) (hg : v.ownBlock = some g) : base ≤ g := by
  rcases h.2 with ⟨rfl, _⟩ | ⟨g', cap, cur, rfl, hb, _⟩
  · simp [Value.ownBlock] at hg
  · simp [Value.ownBlock] at hg
    omega

/-- What holds at the head of a round of Play. -/
def PlayRel (w0 : World) (hi : Nat) (I : Nat → World → Prop) (m : Nat) (Ans : Nat → Array Value) (v i : Value) (wr : World) : Prop :=
  ∃ k : Nat, k ≤ m ∧ i = .int .i64 k ∧ (∃ A c, v = .slice A k c) ∧ I k wr ∧ wr.ownsRow hi 37 8 v k (flat Ans k) ∧ Below w0.heap.size w0 wr ∧ hi ≤ wr.heap.size

set_option maxRecDepth 100000 in
set_option maxHeartbeats 2000000 in
theorem play_any (SC : Array Value) (hSC : SC.size = 37) (b o m cap : Nat) (hcap : m ≤ cap) (hm : m ≤ 2097152) (St Ans : Nat → Array Value) (w : World) (hb : b < w.heap.size)
    (hst : ∀ i, i < m → w.rangeAt b (o + i * 37) (St i).toList) (hs37 : ∀ i, i < m → (St i).size = 37) (hs1 : ∀ i, i < m → (St i).all (·.oneCell') = true)
    (ha8 : ∀ i, i < m → (Ans i).size = 8) (ha1 : ∀ i, i < m → (Ans i).all (·.oneCell') = true)
    (I : Nat → Nat → Nat → World → Prop) (hI : ∀ hi p k a c, I hi p k a → Below hi a c → I hi p k c)
    (hstart : ∀ W, Below w.heap.size w W → Calls Try.prog 16 #[.agg SC] W fun e w' => ∃ p, e = .returned (.pointer (some ⟨p, 0, none⟩)) ∧ I w'.heap.size p 0 w' ∧ Below W.heap.size W w')
    (hstep : ∀ hi p k A n c W, k < m → I hi p k W → hi ≤ W.heap.size → Calls Try.prog 17 #[.pointer (some ⟨p, 0, none⟩), .agg (St k), .slice A n c] W fun e w' => e = .returned (.agg (Ans k)) ∧ Apart w.heap.size hi W w' ∧ I hi p (k + 1) w') :
    Calls Try.prog 7 #[.agg SC, .slice (some ⟨b, o, none⟩) m cap] w fun e w' => ∃ A c, e = .returned (.slice A m c) ∧ w'.ownsRow w.heap.size 37 8 (.slice A m c) m (flat Ans m) ∧ Below w.heap.size w w' := by
  have hsz26 : (Try.prog.info? 26).map (·.size) = some SC.size := by rw [size26, hSC]
  have Hst := hide hst
  have Hs37 := hide hs37
  have Hs1 := hide hs1
  have Ha8 := hide ha8
  have Ha1 := hide ha1
  have HI := hide hI
  have Hstart := hide hstart
  have Hstep := hide hstep
  clear hst hs37 hs1 ha8 ha1 hI hstart hstep hSC
  go_enter Try.func7, Try.ntmps7
  go_wp2_with (refine wpList_load_row rfl 26 (.tmp 2) rfl w.heap.size rfl 26 SC (0, 0) _ (Blk.new w 26 SC) Try.underlying26 rfl hsz26 ?_)
  refine (Hstart.out _ ((Below.refl _ w).alloc (Nat.le_refl _) _)).mono ?_
  rintro e w1 ⟨p, rfl, hi0, hb1⟩
  have Hi0 := hide hi0
  have Hb1 := hide hb1
  clear hi0 hb1
  go_wp2_with fail
  go_loopw [6, 13] (fun v i wr => PlayRel w w1.heap.size (I w1.heap.size p) m Ans v i wr) (fun _ i _ => m - (intOf i).toNat)
  case atStart => exact ⟨0, Nat.zero_le _, rfl, ⟨_, _, rfl⟩, Hi0.out, ⟨rfl, .inl ⟨rfl, rfl⟩⟩, ((Below.refl _ w).alloc (Nat.le_refl _) _).trans (Hb1.out.mono (by simp)), Nat.le_refl _⟩
  case round =>
    obtain ⟨k, hk, rfl, ⟨A, c, rfl⟩, hik, hown, hbel, hsz⟩ := hrel
    have Hik := hide hik
    have Hown := hide hown
    have Hbel := hide hbel
    clear hik hown hbel
    by_cases hlt : k < m
    · have Hld : Hid (wr.rangeAt b (o + k * 37) (St k).toList) := fun j v hv => (Hbel.out.cell (p := ⟨b, o + k * 37 + j, none⟩) hb).trans (Hst.out k hlt j v hv)
      have hsz30 : (Try.prog.info? 30).map (·.size) = some (St k).toList.length := by rw [size30, Array.length_toList, Hs37.out k hlt]
      have Hsz30 := hide hsz30
      have Hsz30' : Hid ((Try.prog.info? 30).map (·.size) = some (St k).size) := by rw [size30, Hs37.out k hlt]; rfl
      have Hold : Hid ((stepOf 0 0).size = (St k).size) := (Hs37.out k hlt).symm
      have Hone := hide (Hs1.out k hlt)
      clear hsz30
      have hst : (storeCells ⟨wr.heap.size, 0, none⟩ (St k).toList).run Try.prog (wr.alloc (.cells #[.int .i64 0, .int .i64 0, .int .u64 0, .int .u64 0, .slice none 0 0, .int .u8 0, .int .u8 0, .int .u8 0, .int .u8 0, .int .u8 0, .int .u8 0, .int .u8 0, .int .u8 0, .int .u8 0, .int .u8 0, .int .u8 0, .int .u8 0, .int .u8 0, .int .u8 0, .int .u8 0, .int .u8 0, .int .u8 0, .int .u8 0, .int .u8 0, .int .u8 0, .int .u8 0, .int .u8 0, .int .u8 0, .int .u8 0, .int .u8 0, .int .u8 0, .int .u8 0, .int .u8 0, .int .u8 0, .int .u8 0, .int .u8 0, .int .u8 0] 30)) = .ok () (wr.alloc (.cells (St k) 30)) := by
        rw [stepZero_eq, run_store_row wr.heap.size 30 (stepOf 0 0) (St k) _ (Blk.new wr 30 (stepOf 0 0)) Hold.out Hone.out, World.setRow_alloc_new]
      have hs37 : (St k).size = 37 := Hs37.out k hlt
      go_wp2_with (first
        | (refine wpList_load_mid rfl 30 (.tmp 15) rfl b (o + k * 37) rfl (St k).toList _ Hld.out Try.underlying30 rfl Hsz30.out ?_)
        | (refine wpList_load_row rfl 30 (.tmp 8) rfl wr.heap.size (by rfl) 30 (St k) (0, 0) _ (by exact Blk.new wr 30 (St k)) Try.underlying30 rfl Hsz30'.out ?_))
      obtain ⟨a0, a1, a2, a3, a4, a5, a6, a7, hAns⟩ := array8 (Ans k) (Ha8.out k hlt)
      have hc := Hstep.out w1.heap.size p k A k c (wr.alloc (.cells (St k) 30)) hlt (HI.out _ _ _ _ _ Hik.out ((Below.refl _ wr).alloc hsz _)) (by simp; omega)
      rw [hAns] at hc
      refine hc.mono ?_
      clear hc
      rintro e w2 ⟨rfl, hA, hI2⟩
      have hsz2 : wr.heap.size + 1 ≤ w2.heap.size := by have := hA.size; simpa using this
      have HO : Hid ((w2.alloc (.cells #[a0, a1, a2, a3, a4, a5, a6, a7] 37)).ownsRow w1.heap.size 37 8 (.slice A k c) k (flat Ans k)) := (own_apart (Hown.out.alloc _) hA (Nat.le_refl _)).alloc _
      have hone : ∀ u ∈ [a0, a1, a2, a3, a4, a5, a6, a7], u.oneCell' = true := fun u hu => by
        have h := Ha1.out k hlt
        rw [hAns] at h
        exact (Array.all_eq_true_iff_forall_mem.1 h) u (by simpa using hu)
      have Hnew : Hid (∀ j u, [a0, a1, a2, a3, a4, a5, a6, a7][j]? = some u → (w2.alloc (.cells #[a0, a1, a2, a3, a4, a5, a6, a7] 37)).cell? ((⟨w2.heap.size, 0, none⟩ : Addr).add j) = some u) := fun j u hu => by
        have hadd : (⟨w2.heap.size, 0, none⟩ : Addr).add j = ⟨w2.heap.size, j, none⟩ := by unfold Addr.add; split <;> simp_all
        rw [hadd, (Blk.new w2 37 #[a0, a1, a2, a3, a4, a5, a6, a7]).cell j]
        simpa using hu
      have HA := hide hA
      have HI2 := hide hI2
      have Hone' := hide hone
      have HAns := hide hAns
      clear hA hI2 hst hs37 hone hAns
      obtain ⟨i0, hi, hz0, hz1, hz2⟩ := info_parts info37
      go_wp2_with (at_builtin; refine wpList_append_own _ rfl (.tmp 17) (.tmp 22) _ rfl w1.heap.size 37 i0 _ 8 104 Try.underlying31 hi hz0 hz1 hz2 rfl (by omega) (.slice A k c) k (flat Ans k) rfl HO.out ⟨w2.heap.size, 0, none⟩ 1 1 [a0, a1, a2, a3, a4, a5, a6, a7] rfl rfl Hnew.out Hone'.out (by simp only [maxLen]; omega) (by omega) (by simp; omega) ?_; intro v3 w3 hown3 hg3 hat3)
      have hb2 : Below w1.heap.size w2 w3 := ((Below.refl _ w2).alloc (by omega) _).grown hg3 (by simp; omega) (fun g hg => own_block_ge Hown.out g hg)
      have hw1 : w.heap.size ≤ w1.heap.size := by have := Hb1.out.size; simp at this; omega
      have hb3 : Below w.heap.size w w3 := (((Hbel.out.alloc (by omega) _).trans (HA.out.below (by simp; omega))).alloc (by omega) _).grown hg3 (by simp; omega) (fun g hg => by have := own_block_ge Hown.out g hg; omega)
      refine ⟨⟨k + 1, by omega, by go_num, own_form hown3, HI.out _ _ _ _ _ HI2.out hb2, ?_, hb3, ?_⟩, by simp [intOf]; omega⟩
      · rw [flat_succ, HAns.out]
        exact hown3
      · have := hb2.size
        omega
    · obtain rfl : k = m := by omega
      go_wp2
      go_ret
      exact ⟨_, _, rfl, ⟨Hown.out.1, Hown.out.2.imp id fun ⟨g, cap, cur, hv, hg, r⟩ => ⟨g, cap, cur, hv, by have := Hb1.out.size; simp at this; omega, r⟩⟩, Hbel.out⟩

end Go.Proofs.Ytiofpkfcinfhiaa
