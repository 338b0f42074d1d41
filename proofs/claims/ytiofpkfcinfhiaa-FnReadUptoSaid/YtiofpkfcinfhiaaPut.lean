/-
  The walk of LEPutUint64: eight cells of a row.
-/
import Derived.Test.YtiofpkfcinfhiaaCore
namespace Go.Proofs.Ytiofpkfcinfhiaa
open Go.RowKit

/-- A row with the cells bs from o on. -/
def splice (arr : Array Value) (o : Nat) (bs : List Value) : Array Value := (arr.toList.take o ++ bs ++ arr.toList.drop (o + bs.length)).toArray

theorem splice_nil (arr : Array Value) (o : Nat) : splice arr o [] = arr := by simp [splice]
theorem splice_size (arr : Array Value) (o : Nat) (bs : List Value) (h : o + bs.length ≤ arr.size) : (splice arr o bs).size = arr.size := by
  simp only [splice, List.size_toArray, List.length_append, List.length_take, List.length_drop, Array.length_toList]
  omega
theorem splice_set (arr : Array Value) (o : Nat) (bs : List Value) (v : Value) (h : o + bs.length < arr.size) : (splice arr o bs).setIfInBounds (o + bs.length) v = splice arr o (bs ++ [v]) := by
  unfold splice
  rw [List.setIfInBounds_toArray]
  congr 1
  have hl : (arr.toList.take o ++ bs).length = o + bs.length := by simp only [List.length_append, List.length_take, Array.length_toList]; omega
  rw [List.set_append_right _ _ (by omega), hl, Nat.sub_self, List.drop_eq_getElem_cons (by simpa using h), List.set_cons_zero]
  simp [Nat.add_assoc]
theorem Blk.put {w : World} {b : Nat} {t : TypeId} {arr : Array Value} {o : Nat} {bs : List Value} (hb : Blk w b t (splice arr o bs)) (h : o + bs.length < arr.size) (v : Value) : Blk (w.setCell ⟨b, o + bs.length, none⟩ v) b t (splice arr o (bs ++ [v])) := by
  have := hb.set_ (o + bs.length) v
  rw [splice_set arr o bs v h] at this
  exact this

/-- A word's eight bytes, the lowest first. -/
def bytes8 (x : Int) : List Value := [.int .u8 (x % 256), .int .u8 (x / 256 % 256), .int .u8 (x / 65536 % 256), .int .u8 (x / 16777216 % 256), .int .u8 (x / 4294967296 % 256), .int .u8 (x / 1099511627776 % 256), .int .u8 (x / 281474976710656 % 256), .int .u8 (x / 72057594037927936 % 256)]

theorem put8 {w : World} {b : Nat} {t : TypeId} {arr : Array Value} {o : Nat} (hb : Blk w b t arr) (h : o + 8 ≤ arr.size) (v0 v1 v2 v3 v4 v5 v6 v7 : Value) :
    Blk ((((((((w.setCell ⟨b, o, none⟩ v0).setCell ⟨b, o + 1, none⟩ v1).setCell ⟨b, o + 2, none⟩ v2).setCell ⟨b, o + 3, none⟩ v3).setCell ⟨b, o + 4, none⟩ v4).setCell ⟨b, o + 5, none⟩ v5).setCell ⟨b, o + 6, none⟩ v6).setCell ⟨b, o + 7, none⟩ v7) b t (splice arr o [v0, v1, v2, v3, v4, v5, v6, v7]) := by
  have h0 : Blk w b t (splice arr o []) := by rw [splice_nil]; exact hb
  have h1 := h0.put (by simp; omega) v0
  have h2 := h1.put (by simp; omega) v1
  have h3 := h2.put (by simp; omega) v2
  have h4 := h3.put (by simp; omega) v3
  have h5 := h4.put (by simp; omega) v4
  have h6 := h5.put (by simp; omega) v5
  have h7 := h6.put (by simp; omega) v6
  exact h7.put (by simp; omega) v7

set_option maxHeartbeats 1000000 in
theorem put_any (b o n c : Nat) (hn : 8 ≤ n) (hm : n ≤ 9223372036854775807) (x : Int) (t : TypeId) (arr : Array Value) (w : World) (hb : Blk w b t arr) (ho : o + 8 ≤ arr.size) :
    Calls Try.prog 63 #[.slice (some ⟨b, o, none⟩) n c, .int .u64 x] w fun e w' => e = .returned (.tuple #[]) ∧ Blk w' b t (splice arr o (bytes8 x)) ∧ Apart b (b + 1) w w' := by
  have g : ∀ j, j < 8 → w.cell? ⟨b, o + j, none⟩ = some (arr[o + j]!) := fun j hj => by
    rw [hb.cell (o + j), Array.getElem?_eq_getElem (by omega), getElem!_pos arr (o + j) (by omega)]
  have c0 : w.cell? ⟨b, o, none⟩ = some (arr[o + 0]!) := g 0 (by omega)
  have c1 := g 1 (by omega)
  have c2 := g 2 (by omega)
  have c3 := g 3 (by omega)
  have c4 := g 4 (by omega)
  have c5 := g 5 (by omega)
  have c6 := g 6 (by omega)
  have c7 := g 7 (by omega)
  have f0 : w.frozen? ⟨b, o, none⟩ = false := hb.frozen o
  have f1 := hb.frozen (o + 1)
  have f2 := hb.frozen (o + 2)
  have f3 := hb.frozen (o + 3)
  have f4 := hb.frozen (o + 4)
  have f5 := hb.frozen (o + 5)
  have f6 := hb.frozen (o + 6)
  have f7 := hb.frozen (o + 7)
  clear g
  generalize arr[o + 0]! = a0 at c0
  generalize arr[o + 1]! = a1 at c1
  generalize arr[o + 2]! = a2 at c2
  generalize arr[o + 3]! = a3 at c3
  generalize arr[o + 4]! = a4 at c4
  generalize arr[o + 5]! = a5 at c5
  generalize arr[o + 6]! = a6 at c6
  generalize arr[o + 7]! = a7 at c7
  have Hb := hide hb
  clear hb
  go_enter Try.func63, Try.ntmps63
  go_wp2
  go_end0
  exact ⟨rfl, put8 Hb.out ho _ _ _ _ _ _ _ _, (((((((((Apart.refl _ _ w).setCell (p := ⟨b, o, none⟩) (.inl ⟨Nat.le_refl _, Nat.lt_succ_self _⟩) _).setCell (p := ⟨b, o + 1, none⟩) (.inl ⟨Nat.le_refl _, Nat.lt_succ_self _⟩) _).setCell (p := ⟨b, o + 2, none⟩) (.inl ⟨Nat.le_refl _, Nat.lt_succ_self _⟩) _).setCell (p := ⟨b, o + 3, none⟩) (.inl ⟨Nat.le_refl _, Nat.lt_succ_self _⟩) _).setCell (p := ⟨b, o + 4, none⟩) (.inl ⟨Nat.le_refl _, Nat.lt_succ_self _⟩) _).setCell (p := ⟨b, o + 5, none⟩) (.inl ⟨Nat.le_refl _, Nat.lt_succ_self _⟩) _).setCell (p := ⟨b, o + 6, none⟩) (.inl ⟨Nat.le_refl _, Nat.lt_succ_self _⟩) _).setCell (p := ⟨b, o + 7, none⟩) (.inl ⟨Nat.le_refl _, Nat.lt_succ_self _⟩) _)⟩

end Go.Proofs.Ytiofpkfcinfhiaa
