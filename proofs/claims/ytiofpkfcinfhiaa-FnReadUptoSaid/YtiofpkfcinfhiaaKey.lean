/-
  A key as a value; the start that FnRead builds of it; the generators of its two players.
-/
import Derived.Test.YtiofpkfcinfhiaaDoubled
import Derived.Test.YtiofpkfcinfhiaaTwins
namespace Go.Proofs.Ytiofpkfcinfhiaa
open Go.RowKit



def keyRow (z : Nat → Int) : Array Value := #[.int .u8 (z 0), .int .u8 (z 1), .int .u8 (z 2), .int .u8 (z 3), .int .u8 (z 4), .int .u8 (z 5), .int .u8 (z 6), .int .u8 (z 7), .int .u8 (z 8), .int .u8 (z 9), .int .u8 (z 10), .int .u8 (z 11), .int .u8 (z 12), .int .u8 (z 13), .int .u8 (z 14), .int .u8 (z 15), .int .u8 (z 16), .int .u8 (z 17), .int .u8 (z 18), .int .u8 (z 19), .int .u8 (z 20), .int .u8 (z 21), .int .u8 (z 22), .int .u8 (z 23), .int .u8 (z 24), .int .u8 (z 25), .int .u8 (z 26), .int .u8 (z 27), .int .u8 (z 28), .int .u8 (z 29), .int .u8 (z 30), .int .u8 (z 31)]
def startKey (z : Nat → Int) : Array Value := #[.int .u64 0, .int .u64 0, .int .i64 2, .int .u8 (z 0), .int .u8 (z 1), .int .u8 (z 2), .int .u8 (z 3), .int .u8 (z 4), .int .u8 (z 5), .int .u8 (z 6), .int .u8 (z 7), .int .u8 (z 8), .int .u8 (z 9), .int .u8 (z 10), .int .u8 (z 11), .int .u8 (z 12), .int .u8 (z 13), .int .u8 (z 14), .int .u8 (z 15), .int .u8 (z 16), .int .u8 (z 17), .int .u8 (z 18), .int .u8 (z 19), .int .u8 (z 20), .int .u8 (z 21), .int .u8 (z 22), .int .u8 (z 23), .int .u8 (z 24), .int .u8 (z 25), .int .u8 (z 26), .int .u8 (z 27), .int .u8 (z 28), .int .u8 (z 29), .int .u8 (z 30), .int .u8 (z 31), .bool false, .slice none 0 0]
def startZero : Array Value := #[.int .u64 0, .int .u64 0, .int .i64 0, .int .u8 0, .int .u8 0, .int .u8 0, .int .u8 0, .int .u8 0, .int .u8 0, .int .u8 0, .int .u8 0, .int .u8 0, .int .u8 0, .int .u8 0, .int .u8 0, .int .u8 0, .int .u8 0, .int .u8 0, .int .u8 0, .int .u8 0, .int .u8 0, .int .u8 0, .int .u8 0, .int .u8 0, .int .u8 0, .int .u8 0, .int .u8 0, .int .u8 0, .int .u8 0, .int .u8 0, .int .u8 0, .int .u8 0, .int .u8 0, .int .u8 0, .int .u8 0, .bool false, .slice none 0 0]
theorem startZero_eq : (#[.int .u64 0, .int .u64 0, .int .i64 0, .int .u8 0, .int .u8 0, .int .u8 0, .int .u8 0, .int .u8 0, .int .u8 0, .int .u8 0, .int .u8 0, .int .u8 0, .int .u8 0, .int .u8 0, .int .u8 0, .int .u8 0, .int .u8 0, .int .u8 0, .int .u8 0, .int .u8 0, .int .u8 0, .int .u8 0, .int .u8 0, .int .u8 0, .int .u8 0, .int .u8 0, .int .u8 0, .int .u8 0, .int .u8 0, .int .u8 0, .int .u8 0, .int .u8 0, .int .u8 0, .int .u8 0, .int .u8 0, .bool false, .slice none 0 0] : Array Value) = startZero := rfl

theorem keyRow_at (z : Nat → Int) (j : Nat) (hj : j < 32) : (keyRow z)[j]? = some (.int .u8 (z j)) := by
  match j, hj with
  | 0, _ => rfl
  | 1, _ => rfl
  | 2, _ => rfl
  | 3, _ => rfl
  | 4, _ => rfl
  | 5, _ => rfl
  | 6, _ => rfl
  | 7, _ => rfl
  | 8, _ => rfl
  | 9, _ => rfl
  | 10, _ => rfl
  | 11, _ => rfl
  | 12, _ => rfl
  | 13, _ => rfl
  | 14, _ => rfl
  | 15, _ => rfl
  | 16, _ => rfl
  | 17, _ => rfl
  | 18, _ => rfl
  | 19, _ => rfl
  | 20, _ => rfl
  | 21, _ => rfl
  | 22, _ => rfl
  | 23, _ => rfl
  | 24, _ => rfl
  | 25, _ => rfl
  | 26, _ => rfl
  | 27, _ => rfl
  | 28, _ => rfl
  | 29, _ => rfl
  | 30, _ => rfl
  | 31, _ => rfl
  | j + 32, h => exact absurd h (by omega)
theorem key_of {KC : Array Value} {z : Nat → Int} (hs : KC.size = 32) (h : ∀ j, j < 32 → KC[j]? = some (.int .u8 (z j))) : KC = keyRow z := by
  apply Array.ext
  · rw [hs]; rfl
  · intro i h1 h2
    have h3 := h i (by omega)
    have h4 := keyRow_at z i (by omega)
    rw [Array.getElem?_eq_getElem h1] at h3
    rw [Array.getElem?_eq_getElem h2] at h4
    injection h3 with h3
    injection h4 with h4
    rw [h3, h4]

theorem startKey_is (z : Nat → Int) : StartIs (startKey z) 0 0 2 z false (.slice none 0 0) := by
  refine ⟨rfl, rfl, rfl, rfl, fun j hj => ?_, rfl, rfl⟩
  match j, hj with
  | 0, _ => rfl
  | 1, _ => rfl
  | 2, _ => rfl
  | 3, _ => rfl
  | 4, _ => rfl
  | 5, _ => rfl
  | 6, _ => rfl
  | 7, _ => rfl
  | 8, _ => rfl
  | 9, _ => rfl
  | 10, _ => rfl
  | 11, _ => rfl
  | 12, _ => rfl
  | 13, _ => rfl
  | 14, _ => rfl
  | 15, _ => rfl
  | 16, _ => rfl
  | 17, _ => rfl
  | 18, _ => rfl
  | 19, _ => rfl
  | 20, _ => rfl
  | 21, _ => rfl
  | 22, _ => rfl
  | 23, _ => rfl
  | 24, _ => rfl
  | 25, _ => rfl
  | 26, _ => rfl
  | 27, _ => rfl
  | 28, _ => rfl
  | 29, _ => rfl
  | 30, _ => rfl
  | 31, _ => rfl
  | j + 32, h => exact absurd h (by omega)
theorem startKey_ones (z : Nat → Int) : (startKey z).all (·.oneCell') = true := by simp [startKey, Value.oneCell']

/-- A value that is a key. -/
def KeyVal (v : Value) : Prop := ∃ z, v = .agg (keyRow z)
theorem keyVal_agg (z : Nat → Int) : KeyVal (.agg (keyRow z)) = True := eq_true ⟨z, rfl⟩
/-- The start with a key. -/
def startOf (v : Value) : Array Value := ([Value.int .u64 0, Value.int .u64 0, Value.int .i64 2] ++ (v.cells.toList ++ [Value.bool false, Value.slice none 0 0])).toArray
theorem startOf_agg (z : Nat → Int) : startOf (.agg (keyRow z)) = startKey z := rfl
theorem built26 (z : Nat → Int) : Try.prog.built 26 [(2, .int .i64 2), (3, .agg (keyRow z))] = some (startKey z) := by kernel_rfl
theorem exec_key (ρ : Operand → Value) (d : Option Tmp) (y : Operand) (ty : TypeId) (pos : String) (af : Array Edge) (gd : Option (Nat × Bool)) (w : World) (h0 : ρ (.const (.int .i64 2)) = .int .i64 2) (h : KeyVal (ρ y)) :
    (execOp ρ ⟨d, .build 26 #[(2, .const (.int .i64 2)), (3, y)], ty, pos, af, gd⟩).run Try.prog w = .ok (.value (.agg (startOf (ρ y)))) w := by
  obtain ⟨z, h⟩ := h
  simp only [execOp, Sem.run_bind, List.map_toArray, List.map_cons, List.map_nil, h0, h, run_build w 26 _ _ (built26 z), Result.andThen_ok, Sem.run_pure, startOf_agg]

/-- The sizes that FnRead asks for. -/
def sizeAt (zs : List Int) : Nat → Nat
  | 0 => 1
  | i + 1 => (zs.getD i 0 % 4096).toNat
theorem sizeAt_le (zs : List Int) (i : Nat) : sizeAt zs i ≤ 65536 := by
  cases i with
  | zero => simp [sizeAt]
  | succ i => simp only [sizeAt]; omega

/-- The generators behind so many Reads. -/
noncomputable def gens (z : Nat → Int) (ns : Nat → Nat) : Nat → Gen
  | 0 => ⟨coreNew z, List.replicate 8 (.int .u8 0), 0⟩
  | i + 1 => (gens z ns i).next (ns i)
theorem gens_ok (z : Nat → Int) (ns : Nat → Nat) (i : Nat) : (gens z ns i).Ok := by
  induction i with
  | zero => exact ⟨coreNew_ok z, rfl, fun v hv => ⟨0, (List.mem_replicate.1 hv).2, by omega, by omega⟩, Nat.zero_le _⟩
  | succ i ih => exact Gen.next_ok ih _

end Go.Proofs.Ytiofpkfcinfhiaa
