/-
  The walks of a PCG's Uint64 and of NewPCG: what is drawn first follows from the two words of the state.
-/
import Derived.Test.YtiofpkfcinfhiaaShelf
import Derived.Test.YtiofpkfcinfhiaaMem
import Derived.Laws.Externs
namespace Go.Proofs.Ytiofpkfcinfhiaa
open Go.RowKit

theorem three_eq (n : String) (x y c : Value) : ∃ u, Extern.MathBitsCarry.three n #[x, y, c] = (do
      let c := (← asInt c).toNat
      if c > 1 then unsupported u
      pure ((← asInt x).toNat, (← asInt y).toNat, c)) := ⟨_, rfl⟩

theorem run_three (n : String) (x y c : Nat) (hc : c ≤ 1) (P : Program) (w : World) : (Extern.MathBitsCarry.three n #[.int .u64 (x : Int), .int .u64 (y : Int), .int .u64 (c : Int)]).run P w = .ok (x, y, c) w := by
  obtain ⟨u, h⟩ := three_eq n (.int .u64 (x : Int)) (.int .u64 (y : Int)) (.int .u64 (c : Int))
  rw [h]
  simp [asInt, asIntOf]
  omega

theorem run_add64 (x y c : Nat) (hc : c ≤ 1) (w : World) :
    (callFunc 97 #[.int .u64 (x : Int), .int .u64 (y : Int), .int .u64 (c : Int)]).run Try.prog w = .ok (.value (.tuple #[.int .u64 (((x + y + c) % 18446744073709551616 : Nat) : Int), .int .u64 (((x + y + c) / 18446744073709551616 : Nat) : Int)])) w := by
  rw [run_callFunc_extern Try.func97 (by kernel_rfl) (by kernel_rfl) (by kernel_rfl) (e := fun args => do
    let (x, y, c) ← Extern.MathBitsCarry.three "Add64" args
    pure (Extern.MathBitsCarry.pair ((x + y + c) % Extern.MathBitsCarry.m64) ((x + y + c) / Extern.MathBitsCarry.m64))) (by kernel_rfl)]
  simp only [Sem.run_bind, run_three "Add64" x y c hc, Result.andThen_ok, Sem.run_pure, Extern.MathBitsCarry.pair, Extern.MathBitsCarry.m64]
  rfl

theorem add64_ex (x y c : Nat) (hc : c ≤ 1) : ∃ s : Nat, ∃ d : Nat, (x < 18446744073709551616 → y < 18446744073709551616 → d ≤ 1) ∧ ∀ w : World,
    (callFunc 97 #[.int .u64 (x : Int), .int .u64 (y : Int), .int .u64 (c : Int)]).run Try.prog w = .ok (.value (.tuple #[.int .u64 (s : Int), .int .u64 (d : Int)])) w :=
  ⟨_, _, fun hx hy => by omega, fun w => run_add64 x y c hc w⟩

theorem u64_cast (z : Int) : ∃ n : Nat, n < 18446744073709551616 ∧ IntKind.u64.wrap z = (n : Int) := by
  refine ⟨(IntKind.u64.wrap z).toNat, ?_, ?_⟩ <;> rw [IntKind.wrap_u64] <;> omega

set_option maxHeartbeats 1000000 in
theorem next_ex (hi lo : Nat) (hlo : lo < 18446744073709551616) : ∃ H L : Nat, ∀ (b o : Nat) (w : World)
   (_ : w.cell? ⟨b, o, none⟩ = some (.int .u64 hi)) (_ : w.cell? ⟨b, o + 1, none⟩ = some (.int .u64 lo)) (_ : w.frozen? ⟨b, o, none⟩ = false) (_ : w.frozen? ⟨b, o + 1, none⟩ = false),
    Calls Try.prog 95 #[.pointer (some ⟨b, o, none⟩)] w fun e w' => e = .returned (.tuple #[.int .u64 H, .int .u64 L]) ∧ w' = ((w.setCell ⟨b, o + 1, none⟩ (.int .u64 L)).setCell ⟨b, o, none⟩ (.int .u64 H)).drew := by
  obtain ⟨h2, hh2, e2⟩ := u64_cast ((lo : Int) * 4865540595714422341 / 18446744073709551616 + IntKind.u64.wrap (IntKind.u64.wrap ((hi : Int) * 4865540595714422341) + IntKind.u64.wrap ((lo : Int) * 2549297995355413924)))
  obtain ⟨l2, hl2, f2⟩ : ∃ n : Nat, n < 18446744073709551616 ∧ (lo : Int) * 4865540595714422341 % 18446744073709551616 = n := ⟨lo * 4865540595714422341 % 18446744073709551616, by omega, by omega⟩
  obtain ⟨L, C, hC, r1⟩ := add64_ex l2 1442695040888963407 0 (by omega)
  obtain ⟨H, D, hD, r2⟩ := add64_ex h2 6364136223846793005 C (hC hl2 (by omega))
  have r1' : ∀ W : World, (callFunc 97 #[.int .u64 (l2 : Int), .int .u64 1442695040888963407, .int .u64 0]).run Try.prog W = .ok (.value (.tuple #[.int .u64 (L : Int), .int .u64 (C : Int)])) W := r1
  have r2' : ∀ W : World, (callFunc 97 #[.int .u64 (h2 : Int), .int .u64 6364136223846793005, .int .u64 (C : Int)]).run Try.prog W = .ok (.value (.tuple #[.int .u64 (H : Int), .int .u64 (D : Int)])) W := r2
  clear r1 r2
  refine ⟨H, L, fun b o w c0 c1 f0 f1 => ?_⟩
  clear hC hD hh2 hl2
  go_enter Try.func95, Try.ntmps95
  go_wp2_with fail
  go_call (Try.bits_Mul64 lo 4865540595714422341 (by omega) (by omega) _) as e w' ⟨rfl, rfl⟩
  go_wp2
  go_region
  go_wp2
  go_ret2
  exact ⟨rfl, rfl⟩

/-- What Uint64 makes of the two new words. -/
def pcgOut (H L : Nat) : Int :=
  IntKind.u64.wrap (bits BinOp.xor IntKind.u64 (IntKind.u64.wrap (bits BinOp.xor IntKind.u64 (↑H) (↑H / 4294967296) * 15750249268501108917))
    (IntKind.u64.wrap (bits BinOp.xor IntKind.u64 (↑H) (↑H / 4294967296) * 15750249268501108917) / 281474976710656) * bits BinOp.or IntKind.u64 (↑L) 1)

set_option maxHeartbeats 1000000 in
theorem pcg_ex (hi lo : Nat) (hlo : lo < 18446744073709551616) : ∃ (x : Int) (H L : Nat), ∀ (b o : Nat) (w : World)
   (_ : w.cell? ⟨b, o, none⟩ = some (.int .u64 hi)) (_ : w.cell? ⟨b, o + 1, none⟩ = some (.int .u64 lo)) (_ : w.frozen? ⟨b, o, none⟩ = false) (_ : w.frozen? ⟨b, o + 1, none⟩ = false),
    Calls Try.prog 92 #[.pointer (some ⟨b, o, none⟩)] w fun e w' => e = .returned (.int .u64 x) ∧ w' = ((w.setCell ⟨b, o + 1, none⟩ (.int .u64 L)).setCell ⟨b, o, none⟩ (.int .u64 H)).drew := by
  obtain ⟨H, L, hn⟩ := next_ex hi lo hlo
  refine ⟨pcgOut H L, H, L, fun b o w c0 c1 f0 f1 => ?_⟩
  have hn' := hide (hn b o w c0 c1 f0 f1)
  clear hn
  go_enter Try.func92, Try.ntmps92
  go_wp2_with fail
  go_call hn'.out as e w' ⟨rfl, rfl⟩
  go_wp2
  go_ret
  exact ⟨rfl, rfl⟩

/-- A generator of the type t whose block holds cs: the method f on a pointer to it returns x, and writes to that block alone. -/
def GenAns (f : Nat) (t : TypeId) (cs : Array Value) (x : Int) : Prop :=
  ∀ (G : Nat) (w : World), Blk w G t cs → Calls Try.prog f #[.pointer (some ⟨G, 0, none⟩)] w fun e w' => e = .returned (.int .u64 x) ∧ Apart G (G + 1) w w'

theorem pcg_ans (hi lo : Nat) (hlo : lo < 18446744073709551616) : ∃ x, GenAns 92 70 #[.int .u64 hi, .int .u64 lo] x := by
  obtain ⟨x, H, L, h⟩ := pcg_ex hi lo hlo
  refine ⟨x, fun G w hb => (h G 0 w (hb.cell 0) (hb.cell 1) (hb.frozen 0) (hb.frozen 1)).mono fun e w' ⟨he, hw⟩ => ⟨he, ?_⟩⟩
  subst hw
  exact (((Apart.refl _ _ w).setCell (p := ⟨G, 0 + 1, none⟩) (.inl ⟨Nat.le_refl _, Nat.lt_succ_self _⟩) _).setCell (p := ⟨G, 0, none⟩) (.inl ⟨Nat.le_refl _, Nat.lt_succ_self _⟩) _).drew

set_option maxHeartbeats 400000 in
theorem newPCG_any (a b : Int) (w : World) :
    Calls Try.prog 24 #[.int .u64 a, .int .u64 b] w fun e w' => e = .returned (.pointer (some ⟨w.heap.size, 0, none⟩)) ∧ w' = w.alloc (.cells #[.int .u64 a, .int .u64 b] 70) := by
  go_enter Try.func24, Try.ntmps24
  go_wp2
  go_ret
  exact ⟨rfl, rfl⟩

end Go.Proofs.Ytiofpkfcinfhiaa
