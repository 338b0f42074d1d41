/-
  The walks of LEUint64 and of a ChaCha8's Init.
-/
import Derived.Test.YtiofpkfcinfhiaaCha
import Derived.Deep.RegionWith
import Derived.Deep.RegionHeld3
namespace Go.Proofs.Ytiofpkfcinfhiaa
open Go.RowKit

/-- Eight bytes as a word, the lowest first. -/
def leOf (z0 z1 z2 z3 z4 z5 z6 z7 : Int) : Int :=
  bits BinOp.or IntKind.u64 (bits BinOp.or IntKind.u64 (bits BinOp.or IntKind.u64 (bits BinOp.or IntKind.u64 (bits BinOp.or IntKind.u64 (bits BinOp.or IntKind.u64 (bits BinOp.or IntKind.u64 (IntKind.u64.wrap z0)
    (IntKind.u64.wrap (IntKind.u64.wrap z1 * 256))) (IntKind.u64.wrap (IntKind.u64.wrap z2 * 65536))) (IntKind.u64.wrap (IntKind.u64.wrap z3 * 16777216))) (IntKind.u64.wrap (IntKind.u64.wrap z4 * 4294967296)))
    (IntKind.u64.wrap (IntKind.u64.wrap z5 * 1099511627776))) (IntKind.u64.wrap (IntKind.u64.wrap z6 * 281474976710656))) (IntKind.u64.wrap (IntKind.u64.wrap z7 * 72057594037927936))

set_option maxHeartbeats 1000000 in
theorem le_any (z : Nat → Int) (b o n c : Nat) (hn : 8 ≤ n) (hm : n ≤ 9223372036854775807) (w : World) (hc : ∀ j, j < 8 → w.cell? ⟨b, o + j, none⟩ = some (.int .u8 (z j))) :
    Calls Try.prog 60 #[.slice (some ⟨b, o, none⟩) n c] w fun e w' => e = .returned (.int .u64 (leOf (z 0) (z 1) (z 2) (z 3) (z 4) (z 5) (z 6) (z 7))) ∧ ∃ k, w' = w.drewN k := by
  have c0 : w.cell? ⟨b, o, none⟩ = some (.int .u8 (z 0)) := hc 0 (by omega)
  have c1 := hc 1 (by omega)
  have c2 := hc 2 (by omega)
  have c3 := hc 3 (by omega)
  have c4 := hc 4 (by omega)
  have c5 := hc 5 (by omega)
  have c6 := hc 6 (by omega)
  have c7 := hc 7 (by omega)
  clear hc
  go_enter Try.func60, Try.ntmps60
  go_wp2
  go_quiet (fail)
  go_wp2
  go_ret
  exact ⟨rfl, _, rfl⟩


/-- What the statement of Init reads and writes, as it lies while it runs. -/
def InitS (w : World) (C : Nat) (cs K : Array Value) (W : World) : Prop := Blk W C 96 cs ∧ Blk W w.heap.size 23 K ∧ Apart C (C + 1) w W

theorem le_init {w : World} {C : Nat} {cs K : Array Value} {W : World} (z : Nat → Int) (hz : ∀ j, j < 32 → K[j]? = some (.int .u8 (z j))) (o n c : Nat) (hn : 8 ≤ n) (hm : n ≤ 9223372036854775807) (ho : o + 8 ≤ 32) (hS : InitS w C cs K W) :
    Calls Try.prog 60 #[.slice (some ⟨w.heap.size, o, none⟩) n c] W fun e w' => e = .returned (.int .u64 (leOf (z o) (z (o + 1)) (z (o + 2)) (z (o + 3)) (z (o + 4)) (z (o + 5)) (z (o + 6)) (z (o + 7)))) ∧ InitS w C cs K w' :=
  (le_any (fun j => z (o + j)) w.heap.size o n c hn hm W (fun j hj => (hS.2.1.cell (o + j)).trans (hz _ (by omega)))).mono fun e w' ⟨he, k, hk⟩ => ⟨he, by subst hk; exact ⟨hS.1.drewN k, hS.2.1.drewN k, hS.2.2.drewN k⟩⟩

theorem InitS.drew {w : World} {C : Nat} {cs K : Array Value} {W : World} (h : InitS w C cs K W) : InitS w C cs K W.drew := ⟨h.1.drew, h.2.1.drew, h.2.2.drew⟩

/-- The seed's four words out of a key. -/
def keyWord (z : Nat → Int) (o : Nat) : Int := leOf (z o) (z (o + 1)) (z (o + 2)) (z (o + 3)) (z (o + 4)) (z (o + 5)) (z (o + 6)) (z (o + 7))

set_option maxHeartbeats 1000000 in
theorem init_any (C : Nat) {buf rb : List Value} {t0 t1 t2 t3 i n c rl : Int} (hbl : buf.length = 32) (hr : rb.length = 8) (K : Array Value) (z : Nat → Int) (hz : ∀ j, j < 32 → K[j]? = some (.int .u8 (z j))) (w : World) (hb : Blk w C 96 (chaCells buf t0 t1 t2 t3 i n c rb rl)) :
    Calls Try.prog 37 #[.pointer (some ⟨C, 0, none⟩), .agg K] w fun e w' => e = .returned (.tuple #[]) ∧ Blk w' C 96 (chaCells (chaBuf (keyWord z 0) (keyWord z 8) (keyWord z 16) (keyWord z 24) 0) (keyWord z 0) (keyWord z 8) (keyWord z 16) (keyWord z 24) 0 32 0 rb rl) ∧ Apart C (C + 1) w w' := by
  have HB := hide hb
  clear hb
  have Hz := hide hz
  clear hz
  go_enter Try.func37, Try.ntmps37
  go_wp2
  have hS : InitS w C (chaCells buf t0 t1 t2 t3 i n c rb rl) K (w.alloc (.cells K 23)) := ⟨HB.out.alloc _, Blk.new _ _ _, (Apart.refl _ _ w).alloc _⟩
  generalize w.alloc (.cells K 23) = W at hS ⊢
  go_region_held3 (fun _ => True) (trivial) (first
    | (go_at_call 60; refine (le_init (w := w) (C := C) (cs := chaCells buf t0 t1 t2 t3 i n c rb rl) (K := K) z Hz.out _ _ _ (by omega) (by omega) (by omega) (by first | assumption | (refine InitS.drew ?_; assumption))).mono ?_; rintro e w' ⟨rfl, hS'⟩)
    | (go_at_call 59; have hI : InitS w C (chaCells buf t0 t1 t2 t3 i n c rb rl) K _ := hS'; refine (init64_any C hbl hr _ _ _ _ _ hI.1).mono ?_; rintro e w'' ⟨rfl, hB, hA⟩; have hA2 := hI.2.2.trans hA))
  go_wp2
  go_end0
  exact ⟨rfl, hB, hA2⟩

end Go.Proofs.Ytiofpkfcinfhiaa
