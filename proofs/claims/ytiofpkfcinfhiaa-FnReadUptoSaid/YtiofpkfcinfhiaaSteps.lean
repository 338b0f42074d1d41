/-
  Steps of the kind Read, built and put into slices.
-/
import Derived.Test.YtiofpkfcinfhiaaPlayTwo
import Derived.Test.YtiofpkfcinfhiaaOwnWords
import Derived.Great.BuildSlice
namespace Go.Proofs.Ytiofpkfcinfhiaa
open Go.RowKit

theorem info4 : (Try.prog.info? 4).map (fun i => (i.zero, i.size, i.bytes)) = some (some (.bool false), 1, 1) := by kernel_rfl

theorem fill1 (n : Int) : Instr.fill (fun i => some (i * 37, 37)) ((Array.range (1 * 37)).map ((Value.agg (stepOf 0 0)).cells[· % (Value.agg (stepOf 0 0)).cells.size]!)) [(0, .agg (stepOf 5 n))] = some (stepOf 5 n) := by kernel_rfl
theorem fill2 (n : Int) : Instr.fill (fun i => some (i * 37, 37)) ((Array.range (2 * 37)).map ((Value.agg (stepOf 0 0)).cells[· % (Value.agg (stepOf 0 0)).cells.size]!)) [(0, .agg (stepOf 5 n)), (1, .agg (stepOf 5 n))] = some ((stepOf 5 n).toList ++ (stepOf 5 n).toList).toArray := by kernel_rfl

/-- A value that is a step of the kind Read. -/
def StepVal (v : Value) : Prop := ∃ n, v = .agg (stepOf 5 n)
theorem stepVal_agg (n : Int) : StepVal (.agg (stepOf 5 n)) = True := eq_true ⟨n, rfl⟩
/-- A step twice: its cells. -/
def twoCells (v : Value) : Array Value := (v.cells.toList ++ v.cells.toList).toArray
theorem run_two (u v : Value) (h : StepVal u) (h2 : v = u) (w : World) : (Instr.buildSlice 27 2 #[(0, u), (1, v)]).run Try.prog w = .ok (.slice (some ⟨w.heap.size, 0, none⟩) 2 2) (w.alloc (.cells (twoCells u) 30)) := by
  obtain ⟨n, rfl⟩ := h
  subst h2
  obtain ⟨i0, hi, hz0, hz1, hz2⟩ := info_parts info30
  exact run_buildSlice w 27 30 2 _ _ i0 (.agg (stepOf 0 0)) Try.underlying27 hi hz0 (by rw [hz1]; decide) (by rw [hz1]; decide) (by rw [hz1]; exact fill2 n)
theorem exec_two (ρ : Operand → Value) (d : Option Tmp) (x y : Operand) (ty : TypeId) (pos : String) (af : Array Edge) (gd : Option (Nat × Bool)) (w : World) (h : StepVal (ρ x)) (h2 : ρ y = ρ x) :
    (execOp ρ ⟨d, .buildSlice 27 2 #[(0, x), (1, y)], ty, pos, af, gd⟩).run Try.prog w = .ok (.value (.slice (some ⟨w.heap.size, 0, none⟩) 2 2)) (w.alloc (.cells (twoCells (ρ x)) 30)) := by
  simp only [execOp, Sem.run_bind, List.map_toArray, List.map_cons, List.map_nil, run_two _ _ h h2 w, Result.andThen_ok, Sem.run_pure]

theorem run_one (u : Value) (h : StepVal u) (w : World) : (Instr.buildSlice 27 1 #[(0, u)]).run Try.prog w = .ok (.slice (some ⟨w.heap.size, 0, none⟩) 1 1) (w.alloc (.cells u.cells 30)) := by
  obtain ⟨n, rfl⟩ := h
  obtain ⟨i0, hi, hz0, hz1, hz2⟩ := info_parts info30
  exact run_buildSlice w 27 30 1 _ _ i0 (.agg (stepOf 0 0)) Try.underlying27 hi hz0 (by rw [hz1]; decide) (by rw [hz1]; decide) (by rw [hz1]; exact fill1 n)
theorem exec_one (ρ : Operand → Value) (d : Option Tmp) (x : Operand) (ty : TypeId) (pos : String) (af : Array Edge) (gd : Option (Nat × Bool)) (w : World) (h : StepVal (ρ x)) :
    (execOp ρ ⟨d, .buildSlice 27 1 #[(0, x)], ty, pos, af, gd⟩).run Try.prog w = .ok (.value (.slice (some ⟨w.heap.size, 0, none⟩) 1 1)) (w.alloc (.cells (ρ x).cells 30)) := by
  simp only [execOp, Sem.run_bind, List.map_toArray, List.map_cons, List.map_nil, run_one _ h w, Result.andThen_ok, Sem.run_pure]

/-- The step of the kind Read with a number. -/
def stepIs (v : Value) : Array Value := match v with
  | .int _ n => stepOf 5 n
  | _ => #[]
theorem stepIs_int (k : IntKind) (n : Int) : stepIs (.int k n) = stepOf 5 n := rfl
def IntVal (v : Value) : Prop := ∃ n, v = .int .i64 n
theorem intVal_int (n : Int) : IntVal (.int .i64 n) = True := eq_true ⟨n, rfl⟩
theorem built30 (n : Int) : Try.prog.built 30 [(0, .int .i64 5), (1, .int .i64 n)] = some (stepOf 5 n) := by kernel_rfl
theorem exec_build (ρ : Operand → Value) (d : Option Tmp) (y : Operand) (ty : TypeId) (pos : String) (af : Array Edge) (gd : Option (Nat × Bool)) (w : World) (h0 : ρ (.const (.int .i64 5)) = .int .i64 5) (h : IntVal (ρ y)) :
    (execOp ρ ⟨d, .build 30 #[(0, .const (.int .i64 5)), (1, y)], ty, pos, af, gd⟩).run Try.prog w = .ok (.value (.agg (stepIs (ρ y)))) w := by
  obtain ⟨n, h⟩ := h
  simp only [execOp, Sem.run_bind, List.map_toArray, List.map_cons, List.map_nil, h0, h, run_build w 30 _ _ (built30 n), Result.andThen_ok, Sem.run_pure, stepIs_int]


end Go.Proofs.Ytiofpkfcinfhiaa
