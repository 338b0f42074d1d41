/-
  The walk of started of a ChaCha8 without a source of package impl.
-/
import Derived.Test.YtiofpkfcinfhiaaStarted
namespace Go.Proofs.Ytiofpkfcinfhiaa
open Go.RowKit

/-- A player over a ChaCha8 without a source of package impl: what started leaves. -/
def StartedBare (cs : Array Value) (w : World) (e : Ending) (w' : World) : Prop :=
  ∃ p G sv rv, e = .returned (.pointer (some ⟨p, 0, none⟩)) ∧ Blk w' p 67 #[.iface 71 (.pointer (some ⟨G, 0, none⟩)), sv, rv] ∧ Blk w' G 96 cs ∧ Below w.heap.size w w' ∧ w.heap.size ≤ p ∧ w.heap.size ≤ G

set_option maxHeartbeats 1000000 in
/-- started of a ChaCha8 without a source of package impl. -/
theorem started_bare (SC : Array Value) (one two kind : Int) (z : Nat → Int) (wv : Value) (hs : StartIs SC one two kind z false wv) (w : World)
    (h1 : (kind == 1) = false) (h2 : (kind == 2) = true) :
    Calls Try.prog 16 #[.agg SC] w (StartedBare (chaNew z) w) := by
  have k0 := hs.c0
  have k1 := hs.c1
  have k2 := hs.c2
  have k35 := hs.c35
  have Hrg : Hid (∀ o, ((w.alloc (.cells SC 26)).alloc o).rangeAt w.heap.size 3 (keyCells z)) := fun o j v hv => by
    have hj : j < 32 := by have := (List.getElem?_eq_some_iff.1 hv).1; rw [keyCells_length] at this; exact this
    rw [(((Blk.new w 26 SC).alloc o).cell (3 + j)), hs.key j hj, ← keyCells_at z j hj]
    exact hv
  have hsz23 : (Try.prog.info? 23).map (·.size) = some (keyCells z).length := by rw [size23, keyCells_length]
  clear hs
  go_enter Try.func16, Try.ntmps16
  go_wp2_with (refine wpList_load_mid rfl 23 (.tmp 27) rfl w.heap.size 3 rfl (keyCells z) _ (Hrg.out _) Try.underlying23 rfl hsz23 ?_)
  refine (newCha_any (keyCells z).toArray z (by rw [List.size_toArray, keyCells_length]) (fun j hj => by rw [List.getElem?_toArray, keyCells_at z j hj]) _).mono ?_
  rintro e w2 ⟨rfl, hC, hbC⟩
  have hP0 : Blk w2 (w.heap.size + 1) 67 #[.nilIface, .nilIface, .pointer none] := by
    have h := Blk.new (w.alloc (.cells SC 26)) 67 #[.nilIface, .nilIface, .pointer none]
    rw [World.size_alloc] at h
    exact h.below hbC (by simp)
  have hB0 : Blk w2 w.heap.size 26 SC := ((Blk.new w 26 SC).alloc (.cells #[.nilIface, .nilIface, .pointer none] 67)).below hbC (by simp; omega)
  have hbelw : Below w.heap.size w w2 := (((Below.refl _ w).alloc (Nat.le_refl _) (.cells SC 26)).alloc (by simp) (.cells #[.nilIface, .nilIface, .pointer none] 67)).trans (hbC.mono (by simp; omega))
  simp only [World.size_alloc] at hC
  obtain ⟨G, hGe⟩ : ∃ G, G = w.heap.size + 1 + 1 + 1 := ⟨_, rfl⟩
  have hGl : w.heap.size ≤ G := by omega
  have hGP : G ≠ w.heap.size + 1 := by omega
  rw [← hGe] at hC
  have HC := hide hC
  have HP0 := hide hP0
  have HB0 := hide hB0
  have Hbelw := hide hbelw
  have p0 : w2.cell? ⟨w.heap.size + 1, 0, none⟩ = some .nilIface := hP0.cell 0
  have p1 : w2.cell? ⟨w.heap.size + 1, 1, none⟩ = some .nilIface := hP0.cell 1
  have pf0 := hP0.frozen 0
  have pf1 := hP0.frozen 1
  have b35 : w2.cell? ⟨w.heap.size, 35, none⟩ = some (.bool false) := (hB0.cell 35).trans k35
  simp only [World.size_alloc]
  rw [← hGe]
  clear hC hP0 hB0 hbC hbelw hGe k0 k1 k2 Hrg hsz23 k35
  go_wp2_with fail
  have hbel : Below w.heap.size w ((w2.setCell ⟨w.heap.size + 1, 0, none⟩ (.iface 71 (.pointer (some ⟨G, 0, none⟩)))).setCell ⟨w.heap.size + 1, 1, none⟩ (.iface 71 (.pointer (some ⟨G, 0, none⟩)))) := (Hbelw.out.setCell (p := ⟨w.heap.size + 1, 0, none⟩) (by simp) _).setCell (p := ⟨w.heap.size + 1, 1, none⟩) (by simp) _
  have hB : Blk ((w2.setCell ⟨w.heap.size + 1, 0, none⟩ (.iface 71 (.pointer (some ⟨G, 0, none⟩)))).setCell ⟨w.heap.size + 1, 1, none⟩ (.iface 71 (.pointer (some ⟨G, 0, none⟩)))) w.heap.size 26 SC := (HB0.out.far (p := ⟨w.heap.size + 1, 0, none⟩) (by simp) _).far (p := ⟨w.heap.size + 1, 1, none⟩) (by simp) _
  have hP : Blk ((w2.setCell ⟨w.heap.size + 1, 0, none⟩ (.iface 71 (.pointer (some ⟨G, 0, none⟩)))).setCell ⟨w.heap.size + 1, 1, none⟩ (.iface 71 (.pointer (some ⟨G, 0, none⟩)))) (w.heap.size + 1) 67 #[.iface 71 (.pointer (some ⟨G, 0, none⟩)), .iface 71 (.pointer (some ⟨G, 0, none⟩)), .pointer none] := (HP0.out.set_ 0 _).set_ 1 _
  have hG : Blk ((w2.setCell ⟨w.heap.size + 1, 0, none⟩ (.iface 71 (.pointer (some ⟨G, 0, none⟩)))).setCell ⟨w.heap.size + 1, 1, none⟩ (.iface 71 (.pointer (some ⟨G, 0, none⟩)))) G 96 (chaNew z) := (HC.out.far (p := ⟨w.heap.size + 1, 0, none⟩) hGP _).far (p := ⟨w.heap.size + 1, 1, none⟩) hGP _
  generalize (w2.setCell ⟨w.heap.size + 1, 0, none⟩ (.iface 71 (.pointer (some ⟨G, 0, none⟩)))).setCell ⟨w.heap.size + 1, 1, none⟩ (.iface 71 (.pointer (some ⟨G, 0, none⟩))) = W at hbel hB hP hG ⊢
  clear p0 p1 pf0 pf1 b35 HC HP0 HB0 Hbelw hGP
  have Hp := hide hP
  have Hg := hide hG
  have Hbel := hide hbel
  have hGP := hG.ne_ hP (by decide)
  have hlt := hP.lt
  clear hB hP hG hbel h1 h2
  go_call (anew_any (w.heap.size + 1) _ _ 71 _ W Hp.out) as e w' ⟨rfl, rfl⟩
  go_wp2
  go_ret
  refine ⟨w.heap.size + 1, G, _, _, rfl, (Hp.out.set_ 2 _).alloc _, (Hg.out.far (p := ⟨w.heap.size + 1, 2, none⟩) hGP _).alloc _, (Hbel.out.setCell (p := ⟨w.heap.size + 1, 2, none⟩) (by simp) _).alloc (by simp; omega) _, by omega, hGl⟩

end Go.Proofs.Ytiofpkfcinfhiaa
