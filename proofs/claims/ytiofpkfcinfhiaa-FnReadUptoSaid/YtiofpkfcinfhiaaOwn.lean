/-
  The walks of the source of package impl, of Rand's Uint64 over it, and of ofRand of the kind Uint64.
-/
import Derived.Test.YtiofpkfcinfhiaaDraw
namespace Go.Proofs.Ytiofpkfcinfhiaa
open Go.RowKit

/-- A slice value over the block Wd whose elements are the words ws. -/
def WordsIn (Wd : Nat) (arr : Array Value) (v : Value) (ws : List Int) : Prop :=
  ∃ A c, v = .slice A ws.length c ∧ ws.length ≤ c ∧ c ≤ 9223372036854775807 ∧ (0 < ws.length → ∃ o, A = some ⟨Wd, o, none⟩ ∧ ∀ j x, ws[j]? = some x → arr[o + j]? = some (.int .u64 x))

set_option maxHeartbeats 1000000 in
theorem own_word (O Wd : Nat) (arr : Array Value) (v gv : Value) (x : Int) (ws : List Int) (w : World) (hb : Blk w O 77 #[v, gv]) (hw : Blk w Wd 22 arr) (hv : WordsIn Wd arr v (x :: ws)) :
    Calls Try.prog 107 #[.pointer (some ⟨O, 0, none⟩)] w fun e w' => e = .returned (.int .u64 x) ∧ ∃ v', WordsIn Wd arr v' ws ∧ w' = w.setCell ⟨O, 0, none⟩ v' := by
  obtain ⟨A, c, rfl, hlc, hc, hA⟩ := hv
  obtain ⟨o, rfl, hcell⟩ := hA (by simp)
  have k0 := hb.frozen 0
  have c0 : w.cell? ⟨O, 0, none⟩ = some (.slice (some ⟨Wd, o, none⟩) (ws.length + 1) c) := hb.cell 0
  have x0 : w.cell? ⟨Wd, o, none⟩ = some (.int .u64 x) := (hw.cell o).trans (hcell 0 x rfl)
  simp only [List.length_cons] at hlc
  have hfin : WordsIn Wd arr (.slice (if c = 1 then some ⟨Wd, o, none⟩ else some ⟨Wd, o + 1, none⟩) ws.length (c - 1)) ws := by
    refine ⟨_, _, rfl, by omega, by omega, fun h0 => ⟨o + 1, by rw [if_neg (by omega)], fun j y hy => ?_⟩⟩
    have := hcell (j + 1) y (by simpa using hy)
    rw [show o + 1 + j = o + (j + 1) by omega]
    exact this
  have Hfin := hide hfin
  clear hb hw hcell hfin hA
  go_enter Try.func107, Try.ntmps107
  go_wp2
  all_goals go_ret
  · refine ⟨rfl, _, ?_, rfl⟩
    have h1 := Hfin.out
    rw [if_pos ‹c = 1›, show c - 1 = 0 by omega] at h1
    exact h1
  · refine ⟨rfl, _, ?_, rfl⟩
    have h1 := Hfin.out
    rw [if_neg ‹¬ c = 1›] at h1
    exact h1

/-- The two kinds of generators: the type of the pointer, the method Uint64's number. -/
def GenKind (T : TypeId) (f : Nat) (t : TypeId) : Prop := (T = 68 ∧ f = 92 ∧ t = 70) ∨ (T = 71 ∧ f = 64 ∧ t = 96)

set_option maxHeartbeats 1000000 in
theorem own_gen (O G : Nat) (T : TypeId) (f : Nat) (t : TypeId) (hT : GenKind T f t) (A : Option Addr) (c : Nat) (w : World) (hb : Blk w O 77 #[.slice A 0 c, .iface T (.pointer (some ⟨G, 0, none⟩))])
    (x : Int) (R : World → Prop) (hg : Calls Try.prog f #[.pointer (some ⟨G, 0, none⟩)] w fun e w' => e = .returned (.int .u64 x) ∧ R w') :
    Calls Try.prog 107 #[.pointer (some ⟨O, 0, none⟩)] w fun e w' => e = .returned (.int .u64 x) ∧ R w' := by
  have c0 : w.cell? ⟨O, 0, none⟩ = some (.slice A 0 c) := hb.cell 0
  have c1 : w.cell? ⟨O, 1, none⟩ = some (.iface T (.pointer (some ⟨G, 0, none⟩))) := hb.cell 1
  have Hg := hide hg
  clear hb hg
  rcases hT with ⟨rfl, rfl, rfl⟩ | ⟨rfl, rfl, rfl⟩
  all_goals
    go_enter Try.func107, Try.ntmps107
    go_wp2_with fail
    go_call Hg.out as e w' ⟨rfl, hR⟩
    go_wp2
    go_ret
    exact ⟨rfl, hR⟩

set_option maxHeartbeats 400000 in
theorem new_any (t : TypeId) (x : Value) (w : World) :
    Calls Try.prog 38 #[.iface t x] w fun e w' => e = .returned (.pointer (some ⟨w.heap.size, 0, none⟩)) ∧ w' = w.alloc (.cells #[.iface t x] 131) := by
  go_enter Try.func38, Try.ntmps38
  go_wp2
  go_ret
  exact ⟨rfl, rfl⟩

set_option maxHeartbeats 1000000 in
/-- The Rand's Uint64 over a source of package impl. -/
theorem rand_own (R O : Nat) (w : World) (hb : Blk w R 131 #[.iface 74 (.pointer (some ⟨O, 0, none⟩))])
    (x : Int) (S : World → Prop) (hg : Calls Try.prog 107 #[.pointer (some ⟨O, 0, none⟩)] w fun e w' => e = .returned (.int .u64 x) ∧ S w') :
    Calls Try.prog 51 #[.pointer (some ⟨R, 0, none⟩)] w fun e w' => e = .returned (.int .u64 x) ∧ S w' := by
  have c0 : w.cell? ⟨R, 0, none⟩ = some (.iface 74 (.pointer (some ⟨O, 0, none⟩))) := hb.cell 0
  have Hg := hide hg
  clear hb hg
  go_enter Try.func51, Try.ntmps51
  go_wp2_with fail
  go_call Hg.out as e w' ⟨rfl, hR⟩
  go_wp2
  go_ret
  exact ⟨rfl, hR⟩

/-- An answer in which all but the word is zero. -/
def ansWord (x : Int) : Array Value := #[.int .u64 x, .int .i64 0, .slice none 0 0, .slice none 0 0, .float .f64 0, .slice none 0 0, .bool false, .bool false]

theorem size37 : (Try.prog.info? 37).map (·.size) = some 8 := by kernel_rfl
/-- The zero answer's cells. -/
def ansZero : Array Value := #[.int .u64 0, .int .i64 0, .slice none 0 0, .slice none 0 0, .float .f64 0, .slice none 0 0, .bool false, .bool false]
theorem ansZero_eq : (#[.int .u64 0, .int .i64 0, .slice none 0 0, .slice none 0 0, .float .f64 0, .slice none 0 0, .bool false, .bool false] : Array Value) = ansZero := rfl

theorem ansWord_one (x : Int) : (ansWord x).all (·.oneCell') = true := by simp [ansWord, Value.oneCell']

set_option maxHeartbeats 1000000 in
/-- ofRand of the kind Uint64. -/
theorem ofRand_u64 (p R : Nat) (g sv : Value) (w : World) (hb : Blk w p 67 #[g, sv, .pointer (some ⟨R, 0, none⟩)]) (x : Int) (lo hi : Nat) (S : World → Prop) (hhi : hi ≤ w.heap.size)
    (hS : ∀ a b, S a → Below hi a b → S b)
    (hg : ∀ W, Below hi w W → Calls Try.prog 51 #[.pointer (some ⟨R, 0, none⟩)] W fun e w' => e = .returned (.int .u64 x) ∧ Apart lo hi W w' ∧ S w') :
    Calls Try.prog 31 #[.pointer (some ⟨p, 0, none⟩), .int .i64 6] w fun e w' => e = .returned (.agg (ansWord x)) ∧ Apart lo hi w w' ∧ S w' := by
  have c2 : w.cell? ⟨p, 2, none⟩ = some (.pointer (some ⟨R, 0, none⟩)) := hb.cell 2
  have Hg := hide hg
  have HS := hide hS
  have hlt := hb.lt
  have hn0 : ¬ p = w.heap.size := by omega
  have hn1 : ¬ p = w.heap.size + 1 := by omega
  clear hb hg hS
  go_enter Try.func31, Try.ntmps31
  go_wp2_with fail
  refine (Hg.out _ (((Below.refl _ _).alloc hhi _).alloc (by simp; omega) _)).mono ?_
  rintro e W1 ⟨rfl, hA, hs⟩
  have hB0 : Blk W1 w.heap.size 37 ansZero := (((Blk.new w 37 ansZero).alloc _)).apart hA (.inr hhi)
  have hB1 : Blk W1 (w.heap.size + 1) 37 ansZero := by
    have h := Blk.new (w.alloc (.cells ansZero 37)) 37 ansZero
    rw [World.size_alloc] at h
    exact h.apart hA (.inr (by omega))
  have hA2 : Apart lo hi w W1 := (((Apart.refl lo hi w).alloc _).alloc _).trans hA
  have q0 : W1.cell? ⟨w.heap.size + 1, 0, none⟩ = some (.int .u64 0) := hB1.cell 0
  have qf0 := hB1.frozen 0
  have HB1 : Hid (Blk (W1.setCell ⟨w.heap.size + 1, 0, none⟩ (.int .u64 x)) (w.heap.size + 1) 37 (ansWord x)) := hB1.set_ 0 _
  have HB0 : Hid (Blk (W1.setCell ⟨w.heap.size + 1, 0, none⟩ (.int .u64 x)) w.heap.size 37 ansZero) := hB0.far (p := ⟨w.heap.size + 1, 0, none⟩) (by simp) _
  have hsz : w.heap.size + 2 ≤ W1.heap.size := by have := hA.size; simp at this; omega
  have HA := hide hA2
  have Hs := hide hs
  clear hA hA2 hs hB0 hB1
  go_wp2_with (first
    | (refine wpList_load_row rfl 37 (.tmp 5) rfl (w.heap.size + 1) rfl 37 (ansWord x) (0, 0) _ HB1.out Try.underlying37 rfl size37 ?_)
    | (refine wpList_store_row rfl 37 (.tmp 4) (.tmp 74) rfl w.heap.size (ansWord x) rfl rfl 37 ansZero HB0.out size37 rfl (ansWord_one x) ?_))
  refine bodyPost_ret (v := .agg (ansWord x)) (results_cell_row rfl _ _ w.heap.size 37 (ansWord x) (0, 0) _ rfl (HB0.out.row (ansWord x)) Try.underlying37 rfl size37) rfl ⟨rfl, ?_, ?_⟩
  · exact (HA.out.setCell (p := ⟨w.heap.size + 1, 0, none⟩) (.inr (by simp)) _).setRow (.inr (Nat.le_refl _)) _
  · exact HS.out _ _ Hs.out (below_setRow ((Below.refl hi W1).setCell (p := ⟨w.heap.size + 1, 0, none⟩) (by simp; omega) _) hhi _)

end Go.Proofs.Ytiofpkfcinfhiaa
