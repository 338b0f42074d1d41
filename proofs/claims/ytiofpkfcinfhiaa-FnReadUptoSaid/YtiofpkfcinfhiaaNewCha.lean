/-
  The walk of NewChaCha8.
-/
import Derived.Test.YtiofpkfcinfhiaaInit
import Derived.Deep.MidRow
namespace Go.Proofs.Ytiofpkfcinfhiaa
open Go.RowKit

theorem size23 : (Try.prog.info? 23).map (·.size) = some 32 := by kernel_rfl

/-- A new ChaCha8's cells behind Init with the key z. -/
def chaNew (z : Nat → Int) : Array Value :=
  chaCells (chaBuf (keyWord z 0) (keyWord z 8) (keyWord z 16) (keyWord z 24) 0) (keyWord z 0) (keyWord z 8) (keyWord z 16) (keyWord z 24) 0 32 0 (List.replicate 8 (.int .u8 0)) 0

theorem chaZero_eq : (#[Value.int .u64 0, Value.int .u64 0, Value.int .u64 0, Value.int .u64 0, Value.int .u64 0, Value.int .u64 0, Value.int .u64 0, Value.int .u64 0, Value.int .u64 0, Value.int .u64 0, Value.int .u64 0, Value.int .u64 0, Value.int .u64 0, Value.int .u64 0, Value.int .u64 0, Value.int .u64 0, Value.int .u64 0, Value.int .u64 0, Value.int .u64 0, Value.int .u64 0, Value.int .u64 0, Value.int .u64 0, Value.int .u64 0, Value.int .u64 0, Value.int .u64 0, Value.int .u64 0, Value.int .u64 0, Value.int .u64 0, Value.int .u64 0, Value.int .u64 0, Value.int .u64 0, Value.int .u64 0, Value.int .u64 0, Value.int .u64 0, Value.int .u64 0, Value.int .u64 0, Value.int .u32 0, Value.int .u32 0, Value.int .u32 0, Value.int .u8 0, Value.int .u8 0, Value.int .u8 0, Value.int .u8 0, Value.int .u8 0, Value.int .u8 0, Value.int .u8 0, Value.int .u8 0, Value.int .i64 0] : Array Value) = chaCells (List.replicate 32 (.int .u64 0)) 0 0 0 0 0 0 0 (List.replicate 8 (.int .u8 0)) 0 := rfl

set_option maxRecDepth 100000 in
set_option maxHeartbeats 1000000 in
theorem newCha_any (K : Array Value) (z : Nat → Int) (hK : K.size = 32) (hz : ∀ j, j < 32 → K[j]? = some (.int .u8 (z j))) (w : World) :
    Calls Try.prog 23 #[.agg K] w fun e w' => e = .returned (.pointer (some ⟨w.heap.size + 1, 0, none⟩)) ∧ Blk w' (w.heap.size + 1) 96 (chaNew z) ∧ Below w.heap.size w w' := by
  have Hz := hide hz
  clear hz
  go_enter Try.func23, Try.ntmps23
  go_wp2
  rw [chaZero_eq]
  have hk : Blk ((w.alloc (.cells K 23)).alloc (.cells (chaCells (List.replicate 32 (.int .u64 0)) 0 0 0 0 0 0 0 (List.replicate 8 (.int .u8 0)) 0) 96)) w.heap.size 23 K := (Blk.new _ _ _).alloc _
  have hb : Blk ((w.alloc (.cells K 23)).alloc (.cells (chaCells (List.replicate 32 (.int .u64 0)) 0 0 0 0 0 0 0 (List.replicate 8 (.int .u8 0)) 0) 96)) (w.heap.size + 1) 96 (chaCells (List.replicate 32 (.int .u64 0)) 0 0 0 0 0 0 0 (List.replicate 8 (.int .u8 0)) 0) := by
    have h := Blk.new (w.alloc (.cells K 23)) 96 (chaCells (List.replicate 32 (.int .u64 0)) 0 0 0 0 0 0 0 (List.replicate 8 (.int .u8 0)) 0)
    rw [World.size_alloc] at h
    exact h
  have ha : Apart w.heap.size (w.heap.size + 2) w ((w.alloc (.cells K 23)).alloc (.cells (chaCells (List.replicate 32 (.int .u64 0)) 0 0 0 0 0 0 0 (List.replicate 8 (.int .u8 0)) 0) 96)) := ((Apart.refl _ _ w).alloc _).alloc _
  generalize (w.alloc (.cells K 23)).alloc (.cells (chaCells (List.replicate 32 (.int .u64 0)) 0 0 0 0 0 0 0 (List.replicate 8 (.int .u8 0)) 0) 96) = W at hk hb ha ⊢
  have hu := Try.underlying23
  have hs : (Try.prog.info? 23).map (·.size) = some K.toList.length := by rw [size23]; simp [hK]
  have hr : W.rangeAt w.heap.size 0 K.toList := fun j v hv => by rw [Nat.zero_add, hk.cell j]; simpa using hv
  clear hK
  have Hb := hide hb
  have Hk := hide hk
  have Ha := hide ha
  clear hb ha hk
  go_region_held3 (fun w' => w'.rangeAt w.heap.size 0 K.toList) (first | assumption | go_keep_ranges) (first
    | (go_at_call 37; refine (init_any (w.heap.size + 1) List.length_replicate List.length_replicate K z Hz.out _ Hb.out.drew).mono ?_; rintro e w' ⟨rfl, hB, hA⟩; have hR : w'.rangeAt w.heap.size 0 K.toList := fun j v hv => by rw [Nat.zero_add, (Hk.out.drew.apart hA (.inl (Nat.lt_succ_self _))).cell j]; simpa using hv))
  have HB := hide hB
  have HA := hide hA
  clear hB hA hR hr
  go_wp2
  go_ret
  refine ⟨rfl, HB.out, ?_⟩
  have h1 := Ha.out.drew.trans (HA.out.mono (by omega) (by omega) : Apart w.heap.size (w.heap.size + 2) _ _)
  exact h1.below (Nat.le_refl _)

end Go.Proofs.Ytiofpkfcinfhiaa
