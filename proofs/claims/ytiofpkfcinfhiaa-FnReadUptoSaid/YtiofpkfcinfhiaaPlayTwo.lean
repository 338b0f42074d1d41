/-
  The walk of PlayTwo over two ChaCha8s of one key: Reads in turn.
-/
import Derived.Test.YtiofpkfcinfhiaaPlay
import Derived.Test.YtiofpkfcinfhiaaReads
import Derived.Test.YtiofpkfcinfhiaaBare
import Derived.Deep.DeepCutAuto
namespace Go.Proofs.Ytiofpkfcinfhiaa
open Go.RowKit

/-- The cells of the block that a pointer leads to. -/
def rowOf (v : Value) (w : World) : Array Value :=
  match v with
  | .pointer (some ad) => match w.heap[ad.block]? with
    | some (.cells cs _ _) => cs
    | _ => #[]
  | _ => #[]

/-- The pointer leads to the whole of a start. -/
def StartAt (v : Value) (w : World) : Prop := ∃ g cs, v = .pointer (some ⟨g, 0, none⟩) ∧ Blk w g 26 cs ∧ cs.size = 37
theorem rowOf_blk {w : World} {g : Nat} {t : TypeId} {cs : Array Value} (h : Blk w g t cs) : rowOf (.pointer (some ⟨g, 0, none⟩)) w = cs := by
  unfold Blk at h
  simp [rowOf, h]
theorem load_start (v : Value) (w : World) (h : StartAt v w) : (Instr.loadAt 26 v).run Try.prog w = .ok (.agg (rowOf v w)) w := by
  obtain ⟨g, cs, rfl, h, hs⟩ := h
  have hsz26 : (Try.prog.info? 26).map (·.size) = some cs.size := by rw [size26, hs]
  simp only [Instr.loadAt, Instr.sureAddr, Sem.run_bind, Sem.run_pure, Result.andThen_ok, run_loadVar_row w g 26 26 cs (0, 0) _ h Try.underlying26 rfl hsz26, rowOf_blk h]
theorem exec_start (ρ : Operand → Value) (d : Option Tmp) (x : Operand) (ty : TypeId) (pos : String) (af : Array Edge) (gd : Option (Nat × Bool)) (w : World) (h : StartAt (ρ x) w) :
    (execOp ρ ⟨d, .load 26 x, ty, pos, af, gd⟩).run Try.prog w = .ok (.value (.agg (rowOf (ρ x) w))) w := by
  simp only [execOp, Sem.run_bind, load_start _ w h, Result.andThen_ok, Sem.run_pure]
attribute [local go_sem ↓] exec_start

theorem Blk.grown {w w' : World} {g : Nat} {t : TypeId} {cs : Array Value} {row : Option Nat} (h : Blk w g t cs) (hg : w.grownBy w' row) (hne : some g ≠ row) : Blk w' g t cs := (hg.block g h.lt hne).trans h
theorem own_ne {base : Nat} {w : World} {e : TypeId} {size n : Nat} {v : Value} {xs : List Value} (h : w.ownsRow base e size v n xs) {g : Nat} {t : TypeId} {cs : Array Value} (hb : Blk w g t cs) (hne : t ≠ e) : some g ≠ v.ownBlock := by
  rcases h.2 with ⟨rfl, _⟩ | ⟨g', cap, cur, rfl, hb', hh, _⟩
  · simp [Value.ownBlock]
  · intro e'
    simp only [Value.ownBlock] at e'
    exact hb.ne_ (t' := e) hh hne (by simpa using e')

theorem flat_congr {f g : Nat → Array Value} {k : Nat} (h : ∀ j, j < k → f j = g j) : flat f k = flat g k := by
  induction k with
  | zero => rfl
  | succ k ih => rw [flat_succ, flat_succ, ih (fun j hj => h j (by omega)), h k (by omega)]
theorem stepOf_ones (a b : Int) : (stepOf a b).all (·.oneCell') = true := by simp [stepOf, Value.oneCell']

/-- What holds at the head of a round of PlayTwo. -/
def TwoRel (w0 : World) (hi p q G H : Nat) (sv rv su ru : Value) (gs : Nat → Gen) (ns : Nat → Nat) (m : Nat) (v i : Value) (wr : World) : Prop :=
  ∃ (k : Nat) (Bs : Nat → Nat), k ≤ m ∧ i = .int .i64 k ∧ (∃ A c, v = .slice A k c) ∧
    Blk wr p 67 #[.iface 71 (.pointer (some ⟨G, 0, none⟩)), sv, rv] ∧ Blk wr q 67 #[.iface 71 (.pointer (some ⟨H, 0, none⟩)), su, ru] ∧
    Blk wr G 96 (gs ((k + 1) / 2)).cells ∧ Blk wr H 96 (gs (k / 2)).cells ∧
    (∀ j, j < k → hi ≤ Bs j ∧ Blk wr (Bs j) 5 ((gs (j / 2)).bytes (ns (j / 2))).toArray) ∧
    wr.ownsRow hi 37 8 v k (flat (fun j => ansRead (ns (j / 2)) (Bs j)) k) ∧ Below w0.heap.size w0 wr ∧ hi ≤ wr.heap.size

set_option maxRecDepth 100000 in
set_option maxHeartbeats 2000000 in
theorem playTwo_read (SC : Array Value) (z : Nat → Int) (wv : Value) (hs : StartIs SC 0 0 2 z false wv) (b o m cap bw ow capw : Nat) (hcap : m ≤ cap) (hcapw : m ≤ capw) (hm : m ≤ 4194304) (gs : Nat → Gen) (ns : Nat → Nat) (w : World) (hb : b < w.heap.size) (hbw : bw < w.heap.size)
    (hst : ∀ i, i < m → w.rangeAt b (o + i * 37) (stepOf 5 (ns (i / 2))).toList) (hwho : ∀ i, i < m → w.cell? ⟨bw, ow + i, none⟩ = some (.bool (decide (i % 2 = 1))))
    (hn : ∀ i, ns i ≤ 65536) (h0 : (gs 0).cells = chaNew z) (hok : ∀ i, (gs i).Ok) (hgs : ∀ i, gs (i + 1) = (gs i).next (ns i)) :
    Calls Try.prog 9 #[.agg SC, .agg SC, .slice (some ⟨bw, ow, none⟩) m capw, .slice (some ⟨b, o, none⟩) m cap] w fun e w' => ∃ (A : Option Addr) (c : Nat) (Bs : Nat → Nat), e = .returned (.slice A m c) ∧ w'.ownsRow w.heap.size 37 8 (.slice A m c) m (flat (fun j => ansRead (ns (j / 2)) (Bs j)) m) ∧
      (∀ j, j < m → w.heap.size ≤ Bs j ∧ Blk w' (Bs j) 5 ((gs (j / 2)).bytes (ns (j / 2))).toArray) ∧ Below w.heap.size w w' := by
  have Hs := hide hs
  have Hst := hide hst
  have Hwho := hide hwho
  have Hn := hide hn
  have H0 := hide h0
  have Hok := hide hok
  have Hgs := hide hgs
  clear hs hst hwho hn h0 hok hgs
  go_enter Try.func9, Try.ntmps9
  go_wp2_with fail
  have ha0 : Blk ((w.alloc (.cells SC 26)).alloc (.cells SC 26)) w.heap.size 26 SC := (Blk.new _ _ _).alloc _
  have ha1 : Blk ((w.alloc (.cells SC 26)).alloc (.cells SC 26)) (w.heap.size + 1) 26 SC := by
    have h := Blk.new (w.alloc (.cells SC 26)) 26 SC
    rw [World.size_alloc] at h
    exact h
  have hbl : Below w.heap.size w ((w.alloc (.cells SC 26)).alloc (.cells SC 26)) := ((Below.refl _ w).alloc (Nat.le_refl _) _).alloc (by simp) _
  generalize (w.alloc (.cells SC 26)).alloc (.cells SC 26) = W at ha0 ha1 hbl ⊢
  have r0 : StartAt (.pointer (some ⟨w.heap.size, 0, none⟩)) W := ⟨_, _, rfl, ha0, Hs.out.size⟩
  have r1 : StartAt (.pointer (some ⟨w.heap.size + 1, 0, none⟩)) W := ⟨_, _, rfl, ha1, Hs.out.size⟩
  have q0 := rowOf_blk ha0
  have q1 := rowOf_blk ha1
  have Ha0 := hide ha0
  have Ha1 := hide ha1
  have Hbl := hide hbl
  clear ha0 ha1 hbl
  go_region_held3 (fun w' => StartAt (.pointer (some ⟨w.heap.size, 0, none⟩)) w' ∧ StartAt (.pointer (some ⟨w.heap.size + 1, 0, none⟩)) w' ∧ rowOf (.pointer (some ⟨w.heap.size, 0, none⟩)) w' = SC ∧ rowOf (.pointer (some ⟨w.heap.size + 1, 0, none⟩)) w' = SC) (first | (exact ⟨by assumption, by assumption, by assumption, by assumption⟩)) (first
    | (go_at_call 16; first
        | (refine (started_bare SC 0 0 2 z wv Hs.out W.drew rfl rfl).mono ?_; rintro e w1 ⟨p, G, sv, rv, rfl, hp, hG, hb1, hpl, hGl⟩; have t0 : StartAt (.pointer (some ⟨w.heap.size, 0, none⟩)) w1 := ⟨_, _, rfl, Ha0.out.drew.below hb1 Ha0.out.lt, Hs.out.size⟩; have t1 : StartAt (.pointer (some ⟨w.heap.size + 1, 0, none⟩)) w1 := ⟨_, _, rfl, Ha1.out.drew.below hb1 Ha1.out.lt, Hs.out.size⟩; have t2 := rowOf_blk (Ha0.out.drew.below hb1 Ha0.out.lt); have t3 := rowOf_blk (Ha1.out.drew.below hb1 Ha1.out.lt); have Hp := hide hp; have HG := hide hG; have Hb1 := hide hb1; clear hp hG hb1)
        | (refine (started_bare SC 0 0 2 z wv Hs.out w1 rfl rfl).mono ?_; rintro e w2 ⟨q, H, su, ru, rfl, hq, hH, hb2, hql, hHl⟩; have u0 : StartAt (.pointer (some ⟨w.heap.size, 0, none⟩)) w2 := ⟨_, _, rfl, (Ha0.out.drew.below Hb1.out Ha0.out.lt).below hb2 (Ha0.out.drew.below Hb1.out Ha0.out.lt).lt, Hs.out.size⟩; have u1 : StartAt (.pointer (some ⟨w.heap.size + 1, 0, none⟩)) w2 := ⟨_, _, rfl, (Ha1.out.drew.below Hb1.out Ha1.out.lt).below hb2 (Ha1.out.drew.below Hb1.out Ha1.out.lt).lt, Hs.out.size⟩; have u2 := rowOf_blk ((Ha0.out.drew.below Hb1.out Ha0.out.lt).below hb2 (Ha0.out.drew.below Hb1.out Ha0.out.lt).lt); have u3 := rowOf_blk ((Ha1.out.drew.below Hb1.out Ha1.out.lt).below hb2 (Ha1.out.drew.below Hb1.out Ha1.out.lt).lt); have Hq := hide hq; have HH := hide hH; have Hb2 := hide hb2; clear hq hH hb2)))
  clear r0 r1 q0 q1 t0 t1 t2 t3 u0 u1 u2 u3
  have hs1 : w.heap.size ≤ W.heap.size := Hbl.out.size
  have hs2 : W.heap.size ≤ w1.heap.size := Hb1.out.size
  have hs3 : w1.heap.size ≤ w2.heap.size := Hb2.out.size
  have hpw : p < w1.heap.size := Hp.out.lt
  have hGw : G < w1.heap.size := HG.out.lt
  have hqw : q < w2.heap.size := Hq.out.lt
  have hHw : H < w2.heap.size := HH.out.lt
  have hpl' : W.heap.size ≤ p := hpl
  have hGl' : W.heap.size ≤ G := hGl
  have hGH : G ≠ H := by omega
  have Hbelw : Hid (Below w.heap.size w w2) := (Hbl.out.drew.trans (Hb1.out.mono hs1)).trans (Hb2.out.mono (by omega))
  have Hp2 := hide (Hp.out.below Hb2.out hpw)
  have HG2 := hide (HG.out.below Hb2.out hGw)
  rw [← H0.out] at HG2
  have HH2 := hide HH.out
  rw [← H0.out] at HH2
  clear hpl hGl Hp HG HH Hb1 Hb2 Hbl Ha0 Ha1
  go_wp2_with fail
  go_loopw [11, 20] (fun v i wr => TwoRel w w2.heap.size p q G H sv rv su ru gs ns m v i wr) (fun _ i _ => m - (intOf i).toNat)
  case atStart => exact ⟨0, fun _ => 0, Nat.zero_le _, rfl, ⟨_, _, rfl⟩, Hp2.out, Hq.out, HG2.out, HH2.out, fun j hj => absurd hj (by omega), ⟨rfl, .inl ⟨rfl, rfl⟩⟩, Hbelw.out, Nat.le_refl _⟩
  case round =>
    obtain ⟨k, Bs, hk, rfl, ⟨A, c, rfl⟩, hp, hq, hG, hH, hBs, hown, hbel, hsz⟩ := hrel
    clear Hp2 Hq HG2 HH2 Hbelw
    have Hp := hide hp
    have Hq := hide hq
    have HG := hide hG
    have HH := hide hH
    have HBs := hide hBs
    have Hown := hide hown
    have Hbel := hide hbel
    have hwsz : w.heap.size ≤ wr.heap.size := hbel.size
    clear hp hq hG hH hBs hown hbel
    by_cases hlt : k < m
    · obtain ⟨ST, hST⟩ : ∃ ST, stepOf 5 (ns (k / 2)) = ST := ⟨_, rfl⟩
      by_cases hpar : k % 2 = 1
      · have hpd : decide (k % 2 = 1) = true := by simp [hpar]
        have Hld : Hid (wr.rangeAt b (o + k * 37) ST.toList) := by rw [← hST]; exact fun j v hv => (Hbel.out.cell (p := ⟨b, o + k * 37 + j, none⟩) hb).trans (Hst.out k hlt j v hv)
        have hs37 : ST.size = 37 := by rw [← hST]; rfl
        have Hsz30 : Hid ((Try.prog.info? 30).map (·.size) = some ST.toList.length) := by rw [size30, Array.length_toList, hs37]; rfl
        have Hsz30' : Hid ((Try.prog.info? 30).map (·.size) = some ST.size) := by rw [size30, hs37]; rfl
        have Hold : Hid ((stepOf 0 0).size = ST.size) := hs37.symm
        have Hone : Hid (ST.all (·.oneCell') = true) := by rw [← hST]; exact stepOf_ones _ _
        have hwc : ∀ ob, (wr.alloc ob).cell? ⟨bw, ow + k, none⟩ = some (.bool true) := fun ob => by rw [← hpd, ← Hwho.out k hlt]; exact (Hbel.out.alloc (by omega) ob).cell (p := ⟨bw, ow + k, none⟩) hbw
        have hst : (storeCells ⟨wr.heap.size, 0, none⟩ ST.toList).run Try.prog (wr.alloc (.cells #[.int .i64 0, .int .i64 0, .int .u64 0, .int .u64 0, .slice none 0 0, .int .u8 0, .int .u8 0, .int .u8 0, .int .u8 0, .int .u8 0, .int .u8 0, .int .u8 0, .int .u8 0, .int .u8 0, .int .u8 0, .int .u8 0, .int .u8 0, .int .u8 0, .int .u8 0, .int .u8 0, .int .u8 0, .int .u8 0, .int .u8 0, .int .u8 0, .int .u8 0, .int .u8 0, .int .u8 0, .int .u8 0, .int .u8 0, .int .u8 0, .int .u8 0, .int .u8 0, .int .u8 0, .int .u8 0, .int .u8 0, .int .u8 0, .int .u8 0] 30)) = .ok () (wr.alloc (.cells ST 30)) := by
          rw [stepZero_eq, run_store_row wr.heap.size 30 (stepOf 0 0) ST _ (Blk.new wr 30 (stepOf 0 0)) Hold.out Hone.out, World.setRow_alloc_new]
        have hbn : ¬ bw = wr.heap.size := by omega
        have HST := hide hST
        clear hST hpd
        go_wp2_with (first
          | (refine wpList_load_mid rfl 30 (.tmp 23) rfl b (o + k * 37) rfl ST.toList _ Hld.out Try.underlying30 rfl Hsz30.out ?_)
          | (refine wpList_load_row rfl 30 (.tmp 13) rfl wr.heap.size (by rfl) 30 ST (0, 0) _ (by exact Blk.new wr 30 ST) Try.underlying30 rfl Hsz30'.out ?_))
        have hc := step_read q H su ru (gs (k / 2)) (Hok.out _) (ns (k / 2)) (Hn.out _) A k c (wr.alloc (.cells ST 30)) (Hq.out.alloc _) (HH.out.alloc _)
        rw [HST.out] at hc
        refine hc.mono ?_
        clear hc
        rintro e w3 ⟨B, rfl, hBs, hB, hG3, hA⟩
        obtain ⟨a0, a1, a2, a3, a4, a5, a6, a7, hAns⟩ := array8 (ansRead (ns (k / 2)) B) rfl
        rw [hAns]
        rw [World.size_alloc] at hBs
        have hsz2 : wr.heap.size + 1 ≤ w3.heap.size := by have := hA.size; simpa using this
        have HO : Hid ((w3.alloc (.cells #[a0, a1, a2, a3, a4, a5, a6, a7] 37)).ownsRow w2.heap.size 37 8 (.slice A k c) k (flat (fun j => ansRead (ns (j / 2)) (Bs j)) k)) := (own_apart (Hown.out.alloc _) hA (by omega)).alloc _
        have hone : ∀ u ∈ [a0, a1, a2, a3, a4, a5, a6, a7], u.oneCell' = true := fun u hu => by
          have h := ansRead_one (ns (k / 2)) B
          rw [hAns] at h
          exact (Array.all_eq_true_iff_forall_mem.1 h) u (by simpa using hu)
        have Hnew : Hid (∀ j u, [a0, a1, a2, a3, a4, a5, a6, a7][j]? = some u → (w3.alloc (.cells #[a0, a1, a2, a3, a4, a5, a6, a7] 37)).cell? ((⟨w3.heap.size, 0, none⟩ : Addr).add j) = some u) := fun j u hu => by
          have hadd : (⟨w3.heap.size, 0, none⟩ : Addr).add j = ⟨w3.heap.size, j, none⟩ := by unfold Addr.add; split <;> simp_all
          rw [hadd, (Blk.new w3 37 #[a0, a1, a2, a3, a4, a5, a6, a7]).cell j]
          simpa using hu
        have HA := hide hA
        have HB := hide hB
        have HG3 := hide hG3
        have Hone' := hide hone
        have HAns := hide hAns
        clear hA hB hG3 hst hs37 hone hAns hwc
        obtain ⟨i0, hi, hz0, hz1, hz2⟩ := info_parts info37
        go_wp2_with (at_builtin; refine wpList_append_own _ rfl (.tmp 35) (.tmp 40) _ rfl w2.heap.size 37 i0 _ 8 104 Try.underlying31 hi hz0 hz1 hz2 rfl (by omega) (.slice A k c) k (flat (fun j => ansRead (ns (j / 2)) (Bs j)) k) rfl HO.out ⟨w3.heap.size, 0, none⟩ 1 1 [a0, a1, a2, a3, a4, a5, a6, a7] rfl rfl Hnew.out Hone'.out (by simp only [maxLen]; omega) (by omega) (by simp; omega) ?_; intro v3 w4 hown3 hg3 hat3)
        have hb3 : Below w.heap.size w w4 := (((Hbel.out.alloc (by omega) _).trans (HA.out.below (by simp; omega) |>.mono (by omega))).alloc (by omega) _).grown hg3 (by simp; omega) (fun g hg => by have := own_block_ge Hown.out g hg; omega)
        have keep : ∀ {g : Nat} {t : TypeId} {cs : Array Value}, Blk wr g t cs → g ≠ H → t ≠ 37 → Blk w4 g t cs := fun h hne ht => (((h.alloc _).apart HA.out (by omega)).alloc _).grown hg3 (own_ne HO.out (((h.alloc _).apart HA.out (by omega)).alloc _) ht)
        have keep2 : ∀ {g : Nat} {t : TypeId} {cs : Array Value}, Blk w3 g t cs → t ≠ 37 → Blk w4 g t cs := fun h ht => (h.alloc _).grown hg3 (own_ne HO.out (h.alloc _) ht)
        refine ⟨⟨k + 1, fun j => if j = k then B else Bs j, by omega, by go_num, own_form hown3, keep Hp.out (Hp.out.ne_ HH.out (by decide)) (by decide), keep Hq.out (Hq.out.ne_ HH.out (by decide)) (by decide), ?_, ?_, ?_, ?_, hb3, ?_⟩, by simp [intOf]; omega⟩
        · rw [show (k + 1 + 1) / 2 = (k + 1) / 2 by omega]; exact keep HG.out (by omega) (by decide)
        · rw [show (k + 1) / 2 = k / 2 + 1 by omega, Hgs.out]; exact keep2 HG3.out (by decide)
        · intro j hj
          by_cases hjk : j = k
          · subst hjk
            dsimp only; rw [if_pos rfl]; exact ⟨by omega, keep2 HB.out (by decide)⟩
          · dsimp only; rw [if_neg hjk]; have h := HBs.out j (by omega); exact ⟨h.1, keep h.2 (by omega) (by decide)⟩
        · rw [flat_succ, flat_congr (g := fun j => ansRead (ns (j / 2)) (Bs j)) (fun j hj => by simp only [if_neg (show ¬ j = k by omega)])]
          simp only [if_true]
          rw [HAns.out]
          exact hown3
        · have := hg3.size; simp at this; omega
      · have hpd : decide (k % 2 = 1) = false := by simp [hpar]
        have Hld : Hid (wr.rangeAt b (o + k * 37) ST.toList) := by rw [← hST]; exact fun j v hv => (Hbel.out.cell (p := ⟨b, o + k * 37 + j, none⟩) hb).trans (Hst.out k hlt j v hv)
        have hs37 : ST.size = 37 := by rw [← hST]; rfl
        have Hsz30 : Hid ((Try.prog.info? 30).map (·.size) = some ST.toList.length) := by rw [size30, Array.length_toList, hs37]; rfl
        have Hsz30' : Hid ((Try.prog.info? 30).map (·.size) = some ST.size) := by rw [size30, hs37]; rfl
        have Hold : Hid ((stepOf 0 0).size = ST.size) := hs37.symm
        have Hone : Hid (ST.all (·.oneCell') = true) := by rw [← hST]; exact stepOf_ones _ _
        have hwc : ∀ ob, (wr.alloc ob).cell? ⟨bw, ow + k, none⟩ = some (.bool false) := fun ob => by rw [← hpd, ← Hwho.out k hlt]; exact (Hbel.out.alloc (by omega) ob).cell (p := ⟨bw, ow + k, none⟩) hbw
        have hst : (storeCells ⟨wr.heap.size, 0, none⟩ ST.toList).run Try.prog (wr.alloc (.cells #[.int .i64 0, .int .i64 0, .int .u64 0, .int .u64 0, .slice none 0 0, .int .u8 0, .int .u8 0, .int .u8 0, .int .u8 0, .int .u8 0, .int .u8 0, .int .u8 0, .int .u8 0, .int .u8 0, .int .u8 0, .int .u8 0, .int .u8 0, .int .u8 0, .int .u8 0, .int .u8 0, .int .u8 0, .int .u8 0, .int .u8 0, .int .u8 0, .int .u8 0, .int .u8 0, .int .u8 0, .int .u8 0, .int .u8 0, .int .u8 0, .int .u8 0, .int .u8 0, .int .u8 0, .int .u8 0, .int .u8 0, .int .u8 0, .int .u8 0] 30)) = .ok () (wr.alloc (.cells ST 30)) := by
          rw [stepZero_eq, run_store_row wr.heap.size 30 (stepOf 0 0) ST _ (Blk.new wr 30 (stepOf 0 0)) Hold.out Hone.out, World.setRow_alloc_new]
        have hbn : ¬ bw = wr.heap.size := by omega
        have HST := hide hST
        clear hST hpd
        go_wp2_with (first
          | (refine wpList_load_mid rfl 30 (.tmp 23) rfl b (o + k * 37) rfl ST.toList _ Hld.out Try.underlying30 rfl Hsz30.out ?_)
          | (refine wpList_load_row rfl 30 (.tmp 13) rfl wr.heap.size (by rfl) 30 ST (0, 0) _ (by exact Blk.new wr 30 ST) Try.underlying30 rfl Hsz30'.out ?_))
        have hc := step_read p G sv rv (gs ((k + 1) / 2)) (Hok.out _) (ns (k / 2)) (Hn.out _) A k c (wr.alloc (.cells ST 30)) (Hp.out.alloc _) (HG.out.alloc _)
        rw [HST.out] at hc
        refine hc.mono ?_
        clear hc
        rintro e w3 ⟨B, rfl, hBs, hB, hG3, hA⟩
        obtain ⟨a0, a1, a2, a3, a4, a5, a6, a7, hAns⟩ := array8 (ansRead (ns (k / 2)) B) rfl
        rw [hAns]
        rw [World.size_alloc] at hBs
        have hsz2 : wr.heap.size + 1 ≤ w3.heap.size := by have := hA.size; simpa using this
        have HO : Hid ((w3.alloc (.cells #[a0, a1, a2, a3, a4, a5, a6, a7] 37)).ownsRow w2.heap.size 37 8 (.slice A k c) k (flat (fun j => ansRead (ns (j / 2)) (Bs j)) k)) := (own_apart (Hown.out.alloc _) hA (by omega)).alloc _
        have hone : ∀ u ∈ [a0, a1, a2, a3, a4, a5, a6, a7], u.oneCell' = true := fun u hu => by
          have h := ansRead_one (ns (k / 2)) B
          rw [hAns] at h
          exact (Array.all_eq_true_iff_forall_mem.1 h) u (by simpa using hu)
        have Hnew : Hid (∀ j u, [a0, a1, a2, a3, a4, a5, a6, a7][j]? = some u → (w3.alloc (.cells #[a0, a1, a2, a3, a4, a5, a6, a7] 37)).cell? ((⟨w3.heap.size, 0, none⟩ : Addr).add j) = some u) := fun j u hu => by
          have hadd : (⟨w3.heap.size, 0, none⟩ : Addr).add j = ⟨w3.heap.size, j, none⟩ := by unfold Addr.add; split <;> simp_all
          rw [hadd, (Blk.new w3 37 #[a0, a1, a2, a3, a4, a5, a6, a7]).cell j]
          simpa using hu
        have HA := hide hA
        have HB := hide hB
        have HG3 := hide hG3
        have Hone' := hide hone
        have HAns := hide hAns
        clear hA hB hG3 hst hs37 hone hAns hwc
        obtain ⟨i0, hi, hz0, hz1, hz2⟩ := info_parts info37
        go_wp2_with (at_builtin; refine wpList_append_own _ rfl (.tmp 42) (.tmp 47) _ rfl w2.heap.size 37 i0 _ 8 104 Try.underlying31 hi hz0 hz1 hz2 rfl (by omega) (.slice A k c) k (flat (fun j => ansRead (ns (j / 2)) (Bs j)) k) rfl HO.out ⟨w3.heap.size, 0, none⟩ 1 1 [a0, a1, a2, a3, a4, a5, a6, a7] rfl rfl Hnew.out Hone'.out (by simp only [maxLen]; omega) (by omega) (by simp; omega) ?_; intro v3 w4 hown3 hg3 hat3)
        have hb3 : Below w.heap.size w w4 := (((Hbel.out.alloc (by omega) _).trans (HA.out.below (by simp; omega) |>.mono (by omega))).alloc (by omega) _).grown hg3 (by simp; omega) (fun g hg => by have := own_block_ge Hown.out g hg; omega)
        have keep : ∀ {g : Nat} {t : TypeId} {cs : Array Value}, Blk wr g t cs → g ≠ G → t ≠ 37 → Blk w4 g t cs := fun h hne ht => (((h.alloc _).apart HA.out (by omega)).alloc _).grown hg3 (own_ne HO.out (((h.alloc _).apart HA.out (by omega)).alloc _) ht)
        have keep2 : ∀ {g : Nat} {t : TypeId} {cs : Array Value}, Blk w3 g t cs → t ≠ 37 → Blk w4 g t cs := fun h ht => (h.alloc _).grown hg3 (own_ne HO.out (h.alloc _) ht)
        refine ⟨⟨k + 1, fun j => if j = k then B else Bs j, by omega, by go_num, own_form hown3, keep Hp.out (Hp.out.ne_ HG.out (by decide)) (by decide), keep Hq.out (Hq.out.ne_ HG.out (by decide)) (by decide), ?_, ?_, ?_, ?_, hb3, ?_⟩, by simp [intOf]; omega⟩
        · rw [show (k + 1 + 1) / 2 = k / 2 + 1 by omega, Hgs.out]; have h := HG3.out; rw [show (k + 1) / 2 = k / 2 by omega] at h; exact keep2 h (by decide)
        · rw [show (k + 1) / 2 = k / 2 by omega]; exact keep HH.out (by omega) (by decide)
        · intro j hj
          by_cases hjk : j = k
          · subst hjk
            dsimp only; rw [if_pos rfl]; have h := HB.out; rw [show (j + 1) / 2 = j / 2 by omega] at h; exact ⟨by omega, keep2 h (by decide)⟩
          · dsimp only; rw [if_neg hjk]; have h := HBs.out j (by omega); exact ⟨h.1, keep h.2 (by omega) (by decide)⟩
        · rw [flat_succ, flat_congr (g := fun j => ansRead (ns (j / 2)) (Bs j)) (fun j hj => by simp only [if_neg (show ¬ j = k by omega)])]
          simp only [if_true]
          rw [HAns.out]
          exact hown3
        · have := hg3.size; simp at this; omega
    · obtain rfl : k = m := by omega
      go_wp2
      go_ret
      exact ⟨_, _, Bs, rfl, ⟨Hown.out.1, Hown.out.2.imp id fun ⟨g, cap, cur, hv, hg, r⟩ => ⟨g, cap, cur, hv, by omega, r⟩⟩, fun j hj => ⟨by have := (HBs.out j hj).1; omega, (HBs.out j hj).2⟩, Hbel.out⟩

end Go.Proofs.Ytiofpkfcinfhiaa
