/-
  read and step of the kind Read.
-/
import Derived.Test.YtiofpkfcinfhiaaRead
namespace Go.Proofs.Ytiofpkfcinfhiaa
open Go.RowKit

/-- The state of a ChaCha8: its core, its store of bytes, and how many of these are left. -/
structure Gen where
  r : Core
  rb : List Value
  rl : Nat

structure Gen.Ok (g : Gen) : Prop where
  r : g.r.Ok
  len : g.rb.length = 8
  byte : ∀ v ∈ g.rb, IsByte v
  le : g.rl ≤ 8

def Gen.cells (g : Gen) : Array Value := g.r.cells g.rb g.rl
/-- The bytes that a Read of n bytes takes, and the state behind them. -/
noncomputable def Gen.bytes (g : Gen) (n : Nat) : List Value := kept g.rb g.rl n ++ tailBytes g.r (n - min n g.rl)
noncomputable def Gen.next (g : Gen) (n : Nat) : Gen := ⟨tailCore g.r (n - min n g.rl), tailRb g.r g.rb (n - min n g.rl), tailRl (g.rl - min n g.rl) (n - min n g.rl)⟩

theorem Gen.next_ok {g : Gen} (h : g.Ok) (n : Nat) : (g.next n).Ok := by
  have h8 := h.le
  refine ⟨?_, ?_, ?_, ?_⟩
  · simp only [Gen.next, tailCore]
    split
    · exact drawMany_ok h.r _
    · exact drawWord_ok (drawMany_ok h.r _)
  · simp only [Gen.next, tailRb]
    split
    · exact h.len
    · rfl
  · simp only [Gen.next, tailRb]
    split
    · exact h.byte
    · exact bytes8_byte _
  · simp only [Gen.next, tailRl]
    split <;> omega

theorem drawMany_byte (r : Core) (q : Nat) : ∀ v ∈ (drawMany q r).1, IsByte v := by
  induction q with
  | zero => intro v hv; simp [drawMany] at hv
  | succ q ih =>
    intro v hv
    simp only [drawMany, List.mem_append] at hv
    rcases hv with hv | hv
    · exact ih v hv
    · exact bytes8_byte _ v hv

theorem Gen.bytes_byte {g : Gen} (h : g.Ok) (n : Nat) : ∀ v ∈ g.bytes n, IsByte v := by
  intro v hv
  simp only [Gen.bytes, tailBytes, List.mem_append] at hv
  rcases hv with hv | hv | hv
  · exact h.byte v (List.mem_of_mem_drop (List.mem_of_mem_take hv))
  · exact drawMany_byte _ _ v hv
  · split at hv
    · cases hv
    · exact bytes8_byte _ v (List.mem_of_mem_take hv)

theorem Gen.bytes_length {g : Gen} (h : g.Ok) (n : Nat) : (g.bytes n).length = n := by
  have h1 := kept_length g.rb h.len g.rl n h.le
  have h8 := h.le
  simp only [Gen.bytes, tailBytes, List.length_append, h1, drawMany_length]
  split
  · simp only [List.length_nil]; omega
  · rw [List.length_take, show (bytes8 (drawWord (drawMany ((n - min n g.rl) / 8) g.r).2).1).length = 8 from rfl]; omega

/-- The answer of a Read: the number and the bytes. -/
def ansRead (n B : Nat) : Array Value := #[.int .u64 0, .int .i64 n, .slice none 0 0, .slice none 0 0, .float .f64 0, .slice (some ⟨B, 0, none⟩) n n, .bool false, .bool false]
theorem ansRead_one (n B : Nat) : (ansRead n B).all (·.oneCell') = true := by simp [ansRead, Value.oneCell']

theorem assert71 (v : Value) (w : World) : (Instr.typeAssert (.iface 71 v) 62 71 true).run Try.prog w = .ok (.tuple #[v, .bool true]) w := by
  simp [Instr.typeAssert, run_underlying Try.underlying71, go_sem, Result.andThen]
theorem info5 : (Try.prog.info? 5).map (fun i => (i.zero, i.size, i.bytes)) = some (some (.int .u8 0), 1, 1) := by kernel_rfl

set_option maxRecDepth 100000 in
set_option maxHeartbeats 1000000 in
/-- read. -/
theorem read29 (p G : Nat) (sv rv : Value) (g : Gen) (hg : g.Ok) (n : Nat) (hn : n ≤ 65536) (w : World) (hp : Blk w p 67 #[.iface 71 (.pointer (some ⟨G, 0, none⟩)), sv, rv]) (hG : Blk w G 96 g.cells) :
    Calls Try.prog 29 #[.pointer (some ⟨p, 0, none⟩), .int .i64 n] w fun e w' => ∃ B, e = .returned (.agg (ansRead n B)) ∧ w.heap.size ≤ B ∧ Blk w' B 5 (g.bytes n).toArray ∧ Blk w' G 96 (g.next n).cells ∧ Apart G (G + 1) w w' := by
  have hpl := hp.lt
  have hGl := hG.lt
  have c0 : ∀ o, (w.alloc o).cell? ⟨p, 0, none⟩ = some (.iface 71 (.pointer (some ⟨G, 0, none⟩))) := fun o => (hp.alloc o).cell 0
  have hn0 : ¬ p = w.heap.size := by omega
  have HG := hide hG
  have Hg := hide hg
  clear hp hG hg
  obtain ⟨i0, hi, hz0, hz1, hz2⟩ := info_parts info5
  have hmk : ∀ W : World, (Instr.makeSlice 28 (.int .i64 n) (.int .i64 n)).run Try.prog W = .ok (.slice (some ⟨W.heap.size, 0, none⟩) n n) (W.alloc (.cells (madeCells #[.int .u8 0] n) 5)) := by
    intro W
    have h := run_make (P := Try.prog) W 28 5 i0 (.int .u8 0) Try.underlying28 hi hz0 .i64 .i64 n n (by omega) (by omega) (by rw [hz2]; omega) (by omega)
    rw [hz1] at h
    refine h.trans ?_
    rw [Int.toNat_natCast, Nat.mul_one]
    rfl
  have hta : ∀ v W, (Instr.typeAssert (.iface 71 v) 62 71 true).run Try.prog W = .ok (.tuple #[v, .bool true]) W := assert71
  go_enter Try.func29, Try.ntmps29
  go_wp2_with fail
  rw [ansZero_eq]
  have hB : Blk ((w.alloc (.cells ansZero 37)).alloc (.cells (madeCells #[.int .u8 0] n) 5)) (w.heap.size + 1) 5 (madeCells #[.int .u8 0] n) := by
    have h := Blk.new (w.alloc (.cells ansZero 37)) 5 (madeCells #[.int .u8 0] n)
    rw [World.size_alloc] at h
    exact h
  have hR : Blk ((w.alloc (.cells ansZero 37)).alloc (.cells (madeCells #[.int .u8 0] n) 5)) w.heap.size 37 ansZero := (Blk.new _ _ _).alloc _
  have hO : Only (fun i => i = G ∨ w.heap.size ≤ i) w ((w.alloc (.cells ansZero 37)).alloc (.cells (madeCells #[.int .u8 0] n) 5)) := ((Only.refl _ _).alloc _).alloc _
  refine (read_any G (w.heap.size + 1) (by omega) g.r Hg.out.r g.rb Hg.out.len Hg.out.byte g.rl Hg.out.le n hn _ (size_madeCells _ _) _ ((HG.out.alloc _).alloc _) hB).mono ?_
  rintro e w1 ⟨rfl, hB1, hG1, hO1⟩
  have hR1 := hR.only hO1 (by rintro (h | h) <;> omega)
  have hO2 : Only (fun i => i = G ∨ w.heap.size ≤ i) w w1 := hO.trans ⟨hO1.os, hO1.tape, hO1.output, hO1.size, fun i hi hs => hO1.block i hi (by rintro (h | h) <;> (apply hs; omega))⟩
  have HB1 := hide hB1
  have HG1 := hide hG1
  have HR1 := hide hR1
  have HO2 := hide hO2
  clear hB hR hO hB1 hG1 hR1 hO1 hO2 hmk hta c0 hi hz0 hz1 hz2
  go_wp2_with (refine wpList_store_row rfl 37 (.tmp 4) (.tmp 34) rfl w.heap.size (ansRead n (w.heap.size + 1)) rfl rfl 37 ansZero HR1.out size37 rfl (ansRead_one _ _) ?_)
  refine bodyPost_ret (v := .agg (ansRead n (w.heap.size + 1))) (results_cell_row rfl _ _ w.heap.size 37 (ansRead n (w.heap.size + 1)) (0, 0) _ rfl (HR1.out.row _) Try.underlying37 rfl size37) rfl ⟨w.heap.size + 1, rfl, by omega, HB1.out.row_far (by omega) _, HG1.out.row_far (by omega) _, ?_⟩
  exact (HO2.out.setRow (.inr (Nat.le_refl _)) _).to_apart (fun i hs hi => by omega)

set_option maxRecDepth 100000 in
set_option maxHeartbeats 1000000 in
/-- step of the kind Read. -/
theorem step_read (p G : Nat) (sv rv : Value) (g : Gen) (hg : g.Ok) (n : Nat) (hn : n ≤ 65536) (A : Option Addr) (l c : Nat) (w : World) (hp : Blk w p 67 #[.iface 71 (.pointer (some ⟨G, 0, none⟩)), sv, rv]) (hG : Blk w G 96 g.cells) :
    Calls Try.prog 17 #[.pointer (some ⟨p, 0, none⟩), .agg (stepOf 5 n), .slice A l c] w fun e w' => ∃ B, e = .returned (.agg (ansRead n B)) ∧ w.heap.size ≤ B ∧ Blk w' B 5 (g.bytes n).toArray ∧ Blk w' G 96 (g.next n).cells ∧ Apart G (G + 1) w w' := by
  have hpl := hp.lt
  have hGl := hG.lt
  have Hp := hide hp
  have HG := hide hG
  have Hg := hide hg
  clear hp hG hg
  have k0 : (stepOf 5 n)[0]? = some (.int .i64 5) := rfl
  have k1 : (stepOf 5 n)[1]? = some (.int .i64 n) := rfl
  have k4 : (stepOf 5 n)[4]? = some (.slice none 0 0) := rfl
  go_enter Try.func17, Try.ntmps17
  go_wp2_with fail
  rw [ansZero_eq]
  refine (read29 p G sv rv g Hg.out n hn _ ((Hp.out.alloc _).alloc _) ((HG.out.alloc _).alloc _)).mono ?_
  rintro e W1 ⟨B, rfl, hB, hB1, hG1, hA⟩
  have hR1 : Blk W1 (w.heap.size + 1) 37 ansZero := by
    have h := Blk.new (w.alloc (.cells (stepOf 5 n) 30)) 37 ansZero
    rw [World.size_alloc] at h
    exact h.apart hA (.inr (by omega))
  have hA2 : Apart G (G + 1) w W1 := (((Apart.refl _ _ w).alloc _).alloc _).trans hA
  have hBw : w.heap.size + 2 ≤ B := by simpa using hB
  have HB1 := hide hB1
  have HG1 := hide hG1
  have HR1 := hide hR1
  have HA2 := hide hA2
  clear hA hA2 hB1 hG1 hR1 k0 k1 k4 hB
  go_wp2_with (refine wpList_store_row rfl 37 (.tmp 6) (.tmp 49) rfl (w.heap.size + 1) (ansRead n B) rfl rfl 37 ansZero HR1.out size37 rfl (ansRead_one n B) ?_)
  refine bodyPost_ret (v := .agg (ansRead n B)) (results_cell_row rfl _ _ (w.heap.size + 1) 37 (ansRead n B) (0, 0) _ rfl (HR1.out.row _) Try.underlying37 rfl size37) rfl ⟨B, rfl, by omega, HB1.out.row_far (by omega) _, HG1.out.row_far (by omega) _, ?_⟩
  exact HA2.out.setRow (.inr (by omega)) _

end Go.Proofs.Ytiofpkfcinfhiaa
