/-
  The walk of step of the kind Word.
-/
import Derived.Test.YtiofpkfcinfhiaaStep
import Derived.Deep.RegionHeld3
import Derived.Deep.MidRow
namespace Go.Proofs.Ytiofpkfcinfhiaa
open Go.RowKit

theorem size30 : (Try.prog.info? 30).map (·.size) = some 37 := by kernel_rfl

/-- The pointer v leads to the cells of a step of the kind Word. -/
def WordAt (v : Value) (w : World) : Prop := ∃ g, v = .pointer (some ⟨g, 0, none⟩) ∧ Blk w g 30 (stepOf 0 0)
theorem load_word (v : Value) (w : World) (h : WordAt v w) : (Instr.loadAt 30 v).run Try.prog w = .ok (.agg (stepOf 0 0)) w := by
  obtain ⟨g, rfl, h⟩ := h
  simp only [Instr.loadAt, Instr.sureAddr, Sem.run_bind, Sem.run_pure, Result.andThen_ok, run_loadVar_row w g 30 30 (stepOf 0 0) (0, 0) _ h Try.underlying30 rfl size30]
theorem exec_word (ρ : Operand → Value) (d : Option Tmp) (x : Operand) (ty : TypeId) (pos : String) (af : Array Edge) (gd : Option (Nat × Bool)) (w : World) (h : WordAt (ρ x) w) :
    (execOp ρ ⟨d, .load 30 x, ty, pos, af, gd⟩).run Try.prog w = .ok (.value (.agg (stepOf 0 0))) w := by
  simp only [execOp, Sem.run_bind, load_word _ w h, Result.andThen_ok, Sem.run_pure]
attribute [local go_sem ↓] exec_word

theorem Blk.row_far {w : World} {g h : Nat} {t : TypeId} {cs : Array Value} (hb : Blk w g t cs) (hne : g ≠ h) (cs' : Array Value) : Blk (w.setRow h cs') g t cs := (heap_setRow w h cs' g hne).trans hb

theorem run_store_row (g : Nat) (t : TypeId) (old cs : Array Value) (w : World) (h : Blk w g t old) (hs : old.size = cs.size) (h1 : cs.all (·.oneCell') = true) :
    (storeCells ⟨g, 0, none⟩ cs.toList).run Try.prog w = .ok () (w.setRow g cs) := by
  have := run_storeCells_from (P := Try.prog) g t cs.toList 0 old w h (by simp; omega) (fun v hv => (Array.all_eq_true_iff_forall_mem.1 h1) v (by simpa using hv))
  simpa using this

set_option maxRecDepth 100000 in
set_option maxHeartbeats 1000000 in
/-- step of the kind Word. -/
theorem step_word (p : Nat) (A : Option Addr) (n c : Nat) (w : World) (x : Int) (lo hi : Nat) (S : World → Prop) (hhi : hi ≤ w.heap.size)
    (hS : ∀ a b, S a → Below hi a b → S b)
    (hg : ∀ W, Below hi w W → hi ≤ W.heap.size → Calls Try.prog 27 #[.pointer (some ⟨p, 0, none⟩), .agg (stepOf 0 0), .slice none 0 0] W fun e w' => e = .returned (.agg (ansWord x)) ∧ Apart lo hi W w' ∧ S w') :
    Calls Try.prog 17 #[.pointer (some ⟨p, 0, none⟩), .agg (stepOf 0 0), .slice A n c] w fun e w' => e = .returned (.agg (ansWord x)) ∧ Apart lo hi w w' ∧ S w' := by
  have Hg := hide hg
  have HS := hide hS
  clear hg hS
  have k0 : (stepOf 0 0)[0]? = some (.int .i64 0) := rfl
  have k1 : (stepOf 0 0)[1]? = some (.int .i64 0) := rfl
  have k4 : (stepOf 0 0)[4]? = some (.slice none 0 0) := rfl
  go_enter Try.func17, Try.ntmps17
  go_wp2_with fail
  have hk : Blk ((w.alloc (.cells (stepOf 0 0) 30)).alloc (.cells ansZero 37)) w.heap.size 30 (stepOf 0 0) := (Blk.new _ _ _).alloc _
  have hr : Blk ((w.alloc (.cells (stepOf 0 0) 30)).alloc (.cells ansZero 37)) (w.heap.size + 1) 37 ansZero := by
    have h := Blk.new (w.alloc (.cells (stepOf 0 0) 30)) 37 ansZero
    rw [World.size_alloc] at h
    exact h
  have ha : Apart lo hi w ((w.alloc (.cells (stepOf 0 0) 30)).alloc (.cells ansZero 37)) := ((Apart.refl lo hi w).alloc _).alloc _
  have hbl : Below hi w ((w.alloc (.cells (stepOf 0 0) 30)).alloc (.cells ansZero 37)) := ((Below.refl _ _).alloc hhi _).alloc (by simp; omega) _
  have hsz : hi ≤ ((w.alloc (.cells (stepOf 0 0) 30)).alloc (.cells ansZero 37)).heap.size := by simp; omega
  rw [ansZero_eq]
  generalize (w.alloc (.cells (stepOf 0 0) 30)).alloc (.cells ansZero 37) = W at hk hr ha hbl hsz ⊢
  have hrg : WordAt (.pointer (some ⟨w.heap.size, 0, none⟩)) W := ⟨_, rfl, hk⟩
  have Hk := hide hk
  have Hr := hide hr
  have Ha := hide ha
  have Hbl := hide hbl
  clear hk hr ha hbl k0 k1 k4
  go_region_held3 (fun w' => WordAt (.pointer (some ⟨w.heap.size, 0, none⟩)) w') (first | assumption | (exact hrg)) (first
    | (go_at_call 28; refine (Try.bytes_Clone_nil 0 0 _).mono ?_; rintro e w' ⟨rfl, rfl⟩)
    | (go_at_call 27; refine (Hg.out W.drew Hbl.out.drew hsz).mono ?_; rintro e w' ⟨rfl, hA, hS1⟩; have hR : WordAt (.pointer (some ⟨w.heap.size, 0, none⟩)) w' := ⟨_, rfl, Hk.out.drew.apart hA (.inr hhi)⟩; have HB1 := hide (Hr.out.drew.apart hA (.inr (by omega))); have hst := run_store_row (w.heap.size + 1) 37 ansZero (ansWord x) w' HB1.out rfl (ansWord_one x); have hR2 : WordAt (.pointer (some ⟨w.heap.size, 0, none⟩)) (w'.setRow (w.heap.size + 1) (ansWord x)) := ⟨_, rfl, (Hk.out.drew.apart hA (.inr hhi)).row_far (by omega) _⟩))
  have HA := hide hA
  have Hs := hide hS1
  clear hA hS1 hst hR hR2 hrg
  go_wp2
  refine bodyPost_ret (v := .agg (ansWord x)) (results_cell_row rfl _ _ (w.heap.size + 1) 37 (ansWord x) (0, 0) _ rfl (HB1.out.row (ansWord x)) Try.underlying37 rfl size37) rfl ⟨rfl, ?_, ?_⟩
  · exact (Ha.out.drew.trans HA.out).setRow (.inr (by omega)) _
  · exact HS.out _ _ Hs.out (below_setRow (Below.refl hi w') (by omega) _)

end Go.Proofs.Ytiofpkfcinfhiaa
