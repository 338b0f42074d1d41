/-
  The walk of same, at two answers of Reads that hold the same bytes.
-/
import Derived.Test.YtiofpkfcinfhiaaReads
namespace Go.Proofs.Ytiofpkfcinfhiaa
open Go.RowKit

theorem run_bits (b : Nat) (w : World) : (callFunc 34 #[.float .f64 b]).run Try.prog w = .ok (.value (.int .u64 b)) w := by
  rw [run_callFunc_extern Try.func34 (by kernel_rfl) (by kernel_rfl) (by kernel_rfl) (e := Extern.MathFloatBits.float64bits) (by kernel_rfl)]
  rfl

set_option maxHeartbeats 1000000 in
theorem pairs_none (w : World) : Calls Try.prog 33 #[.slice none 0 0, .slice none 0 0] w fun e w' => e = .returned (.bool true) ∧ w' = w := by
  go_enter Try.func33, Try.ntmps33
  go_wp2_with fail
  go_loop [13] (fun i => i = .int .i64 0) (fun _ => 0)
  case atStart => rfl
  case round =>
    subst hrel
    go_wp2
    go_ret
    exact ⟨rfl, rfl⟩

theorem bytes_ints {l : List Value} (h : ∀ v ∈ l, IsByte v) : ∃ bs : List Int, l = bs.map (Value.int .u8) := by
  induction l with
  | nil => exact ⟨[], rfl⟩
  | cons v l ih =>
    obtain ⟨bs, rfl⟩ := ih (fun u hu => h u (List.mem_cons_of_mem _ hu))
    obtain ⟨x, rfl, _⟩ := h v (List.mem_cons_self ..)
    exact ⟨x :: bs, rfl⟩

theorem bytesIn_blk {w : World} {B : Nat} {bs : List Int} (h : Blk w B 5 (bs.map (Value.int .u8)).toArray) : Lib.BytesIn w (some ⟨B, 0, none⟩) bs.length bs := fun _ => ⟨B, 0, rfl, fun i hi => by
  rw [h.cell]
  simp [hi]⟩

set_option maxRecDepth 100000 in
set_option maxHeartbeats 2000000 in
theorem same_ints (bs : List Int) (B B' : Nat) (w : World) (hB : Blk w B 5 (bs.map (Value.int .u8)).toArray) (hB' : Blk w B' 5 (bs.map (Value.int .u8)).toArray) :
    Calls Try.prog 18 #[.agg (ansRead bs.length B), .agg (ansRead bs.length B')] w fun e w' => e = .returned (.bool true) ∧ Below w.heap.size w w' := by
  have HB := hide hB
  have HB' := hide hB'
  clear hB hB'
  have hbits : ∀ W : World, (callFunc 34 #[.float .f64 0]).run Try.prog W = .ok (.value (.int .u64 0)) W := fun W => run_bits 0 W
  unfold ansRead
  go_enter Try.func18, Try.ntmps18
  go_wp2_with fail
  have HW : Hid (Below w.heap.size w ((w.alloc (.cells (ansRead bs.length B) 37)).alloc (.cells (ansRead bs.length B') 37))) := ((Below.refl _ w).alloc (Nat.le_refl _) _).alloc (by simp) _
  have HB1 : Hid (∀ n, Lib.BytesIn (((w.alloc (.cells (ansRead bs.length B) 37)).alloc (.cells (ansRead bs.length B') 37)).drewN n) (some ⟨B, 0, none⟩) bs.length bs) := fun n => bytesIn_blk (((HB.out.alloc _).alloc _).drewN n)
  have HB2 : Hid (∀ n, Lib.BytesIn (((w.alloc (.cells (ansRead bs.length B) 37)).alloc (.cells (ansRead bs.length B') 37)).drewN n) (some ⟨B', 0, none⟩) bs.length bs) := fun n => bytesIn_blk (((HB'.out.alloc _).alloc _).drewN n)
  have Hq : Hid ((Lib.bytesOf bs == Lib.bytesOf bs) = true) := by simp [Hid]
  unfold ansRead at HW HB1 HB2
  go_quiet (first
    | (go_at_call 32; exact Calls.quiet_of_same (Try.slices_Equal_int_empty none none 0 0 0 _ (by omega)))
    | (go_at_call 33; exact Calls.quiet_of_same (pairs_none _))
    | (go_at_call 35; exact Calls.quiet_of_same ((Try.bytes_Equal_all _ _ _ _ _ _ bs bs _ rfl rfl (HB1.out _) (HB2.out _)).mono (by rintro e w' ⟨rfl, rfl⟩; exact ⟨by rw [Hq.out], rfl⟩))))
  go_wp2
  go_ret
  exact ⟨rfl, below_drewN HW.out _⟩

end Go.Proofs.Ytiofpkfcinfhiaa
