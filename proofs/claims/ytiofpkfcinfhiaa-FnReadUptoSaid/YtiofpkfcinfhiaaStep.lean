/-
  The walks of step of the kind Uint64 and of ofState of the kind Word.
-/
import Derived.Test.YtiofpkfcinfhiaaOwn
namespace Go.Proofs.Ytiofpkfcinfhiaa
open Go.RowKit

/-- A step of a kind and with a number, all else zero: its cells. -/
def stepOf (op N : Int) : Array Value := #[.int .i64 op, .int .i64 N, .int .u64 0, .int .u64 0, .slice none 0 0,
  .int .u8 0, .int .u8 0, .int .u8 0, .int .u8 0, .int .u8 0, .int .u8 0, .int .u8 0, .int .u8 0, .int .u8 0, .int .u8 0, .int .u8 0, .int .u8 0, .int .u8 0, .int .u8 0, .int .u8 0, .int .u8 0,
  .int .u8 0, .int .u8 0, .int .u8 0, .int .u8 0, .int .u8 0, .int .u8 0, .int .u8 0, .int .u8 0, .int .u8 0, .int .u8 0, .int .u8 0, .int .u8 0, .int .u8 0, .int .u8 0, .int .u8 0, .int .u8 0]

set_option maxHeartbeats 1000000 in
/-- step of the kind Uint64. -/
theorem step_u64 (p : Nat) (A : Option Addr) (n c : Nat) (w : World) (x : Int) (lo hi : Nat) (S : World → Prop) (hhi : hi ≤ w.heap.size)
    (hS : ∀ a b, S a → Below hi a b → S b)
    (hg : ∀ W, Below hi w W → hi ≤ W.heap.size → Calls Try.prog 31 #[.pointer (some ⟨p, 0, none⟩), .int .i64 6] W fun e w' => e = .returned (.agg (ansWord x)) ∧ Apart lo hi W w' ∧ S w') :
    Calls Try.prog 17 #[.pointer (some ⟨p, 0, none⟩), .agg (stepOf 6 0), .slice A n c] w fun e w' => e = .returned (.agg (ansWord x)) ∧ Apart lo hi w w' ∧ S w' := by
  have Hg := hide hg
  have HS := hide hS
  clear hg hS
  have k0 : (stepOf 6 0)[0]? = some (.int .i64 6) := rfl
  have k1 : (stepOf 6 0)[1]? = some (.int .i64 0) := rfl
  have k4 : (stepOf 6 0)[4]? = some (.slice none 0 0) := rfl
  go_enter Try.func17, Try.ntmps17
  go_wp2_with fail
  refine (Hg.out _ (((Below.refl _ _).alloc hhi _).alloc (by simp; omega) _) (by simp; omega)).mono ?_
  rintro e W1 ⟨rfl, hA, hs⟩
  have hB1 : Blk W1 (w.heap.size + 1) 37 ansZero := by
    have h := Blk.new (w.alloc (.cells (stepOf 6 0) 30)) 37 ansZero
    rw [World.size_alloc] at h
    exact h.apart hA (.inr (by omega))
  have hA2 : Apart lo hi w W1 := (((Apart.refl lo hi w).alloc _).alloc _).trans hA
  have HB1 := hide hB1
  have HA := hide hA2
  have Hs := hide hs
  clear hA hA2 hs hB1 k0 k1 k4
  go_wp2_with (refine wpList_store_row rfl 37 (.tmp 6) (.tmp 65) rfl (w.heap.size + 1) (ansWord x) rfl rfl 37 ansZero HB1.out size37 rfl (ansWord_one x) ?_)
  refine bodyPost_ret (v := .agg (ansWord x)) (results_cell_row rfl _ _ (w.heap.size + 1) 37 (ansWord x) (0, 0) _ rfl (HB1.out.row (ansWord x)) Try.underlying37 rfl size37) rfl ⟨rfl, ?_, ?_⟩
  · exact HA.out.setRow (.inr (by omega)) _
  · exact HS.out _ _ Hs.out (below_setRow (Below.refl hi W1) (by omega) _)

set_option maxHeartbeats 1000000 in
/-- ofState of the kind Word. -/
theorem ofState_word (p G : Nat) (T : TypeId) (f : Nat) (t : TypeId) (hT : GenKind T f t) (sv rv : Value) (w : World) (hb : Blk w p 67 #[.iface T (.pointer (some ⟨G, 0, none⟩)), sv, rv]) (x : Int) (lo hi : Nat) (S : World → Prop) (hhi : hi ≤ w.heap.size)
    (hS : ∀ a b, S a → Below hi a b → S b)
    (hg : ∀ W, Below hi w W → Calls Try.prog f #[.pointer (some ⟨G, 0, none⟩)] W fun e w' => e = .returned (.int .u64 x) ∧ Apart lo hi W w' ∧ S w') :
    Calls Try.prog 27 #[.pointer (some ⟨p, 0, none⟩), .agg (stepOf 0 0), .slice none 0 0] w fun e w' => e = .returned (.agg (ansWord x)) ∧ Apart lo hi w w' ∧ S w' := by
  have c0 : ∀ o1 o2 o3, (((w.alloc o1).alloc o2).alloc o3).cell? ⟨p, 0, none⟩ = some (.iface T (.pointer (some ⟨G, 0, none⟩))) := fun o1 o2 o3 => (((hb.alloc o1).alloc o2).alloc o3).cell 0
  have k0 : (stepOf 0 0)[0]? = some (.int .i64 0) := rfl
  have Hg := hide hg
  have HS := hide hS
  have hlt := hb.lt
  have hn0 : ¬ p = w.heap.size := by omega
  have hn1 : ¬ p = w.heap.size + 1 := by omega
  have hn2 : ¬ p = w.heap.size + 1 + 1 := by omega
  clear hb hg hS
  rcases hT with ⟨rfl, rfl, rfl⟩ | ⟨rfl, rfl, rfl⟩
  all_goals
    go_enter Try.func27, Try.ntmps27
    go_wp2_with fail
    refine (Hg.out _ ((((Below.refl _ _).alloc hhi _).alloc (by simp; omega) _).alloc (by simp; omega) _)).mono ?_
    rintro e W1 ⟨rfl, hA, hs⟩
    have hB1 : Blk W1 (w.heap.size + 1) 37 ansZero := by
      have h := Blk.new (w.alloc (.cells (stepOf 0 0) 30)) 37 ansZero
      rw [World.size_alloc] at h
      exact (h.alloc _).apart hA (.inr (by omega))
    have hB2 : Blk W1 (w.heap.size + 1 + 1) 37 ansZero := by
      have h := Blk.new ((w.alloc (.cells (stepOf 0 0) 30)).alloc (.cells ansZero 37)) 37 ansZero
      rw [World.size_alloc, World.size_alloc] at h
      exact h.apart hA (.inr (by omega))
    have hA2 : Apart lo hi w W1 := ((((Apart.refl lo hi w).alloc _).alloc _).alloc _).trans hA
    have q0 : W1.cell? ⟨w.heap.size + 1 + 1, 0, none⟩ = some (.int .u64 0) := hB2.cell 0
    have qf0 := hB2.frozen 0
    have q5 : W1.cell? ⟨w.heap.size + 1 + 1, 5, none⟩ = some (.slice none 0 0) := hB2.cell 5
    have qf5 := hB2.frozen 5
    have q6 : W1.cell? ⟨w.heap.size + 1 + 1, 6, none⟩ = some (.bool false) := hB2.cell 6
    have qf6 := hB2.frozen 6
    have HB2 : Hid (Blk (((W1.setCell ⟨w.heap.size + 1 + 1, 0, none⟩ (.int .u64 x)).setCell ⟨w.heap.size + 1 + 1, 5, none⟩ (.slice none 0 0)).setCell ⟨w.heap.size + 1 + 1, 6, none⟩ (.bool false)) (w.heap.size + 1 + 1) 37 (ansWord x)) := ((hB2.set_ 0 _).set_ 5 _).set_ 6 _
    have HB1 : Hid (Blk (((W1.setCell ⟨w.heap.size + 1 + 1, 0, none⟩ (.int .u64 x)).setCell ⟨w.heap.size + 1 + 1, 5, none⟩ (.slice none 0 0)).setCell ⟨w.heap.size + 1 + 1, 6, none⟩ (.bool false)) (w.heap.size + 1) 37 ansZero) := ((hB1.far (p := ⟨w.heap.size + 1 + 1, 0, none⟩) (by simp) _).far (p := ⟨w.heap.size + 1 + 1, 5, none⟩) (by simp) _).far (p := ⟨w.heap.size + 1 + 1, 6, none⟩) (by simp) _
    have HA := hide hA2
    have Hs := hide hs
    clear hA hA2 hs hB1 hB2 k0
    go_wp2_with fail
    go_call (Try.bytes_Clone_nil 0 0 _) as e w' ⟨rfl, rfl⟩
    go_wp2_with (first
      | (refine wpList_load_row rfl 37 (.tmp 7) rfl (w.heap.size + 1 + 1) rfl 37 (ansWord x) (0, 0) _ HB2.out Try.underlying37 rfl size37 ?_)
      | (refine wpList_store_row rfl 37 (.tmp 6) (.tmp 62) rfl (w.heap.size + 1) (ansWord x) rfl rfl 37 ansZero HB1.out size37 rfl (ansWord_one x) ?_))
    refine bodyPost_ret (v := .agg (ansWord x)) (results_cell_row rfl _ _ (w.heap.size + 1) 37 (ansWord x) (0, 0) _ rfl (HB1.out.row (ansWord x)) Try.underlying37 rfl size37) rfl ⟨rfl, ?_, ?_⟩
    · exact (((HA.out.setCell (p := ⟨w.heap.size + 1 + 1, 0, none⟩) (.inr (by simp; omega)) _).setCell (p := ⟨w.heap.size + 1 + 1, 5, none⟩) (.inr (by simp; omega)) _).setCell (p := ⟨w.heap.size + 1 + 1, 6, none⟩) (.inr (by simp; omega)) _).setRow (.inr (by omega)) _
    · exact HS.out _ _ Hs.out (below_setRow ((((Below.refl hi W1).setCell (p := ⟨w.heap.size + 1 + 1, 0, none⟩) (by simp; omega) _).setCell (p := ⟨w.heap.size + 1 + 1, 5, none⟩) (by simp; omega) _).setCell (p := ⟨w.heap.size + 1 + 1, 6, none⟩) (by simp; omega) _) (by omega) _)

end Go.Proofs.Ytiofpkfcinfhiaa
