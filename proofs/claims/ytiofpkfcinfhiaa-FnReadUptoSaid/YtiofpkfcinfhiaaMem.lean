/-
  Words for memory, of no program: a block that is known whole, a world in which only a range of blocks has turned, a slice that reads as a list of cells.
-/
import Derived.WalkKit
import Derived.WalkSpells
import Derived.WalkLawsBesides
import Derived.Handy
import Derived.Deep.Draws
import Derived.Laws.CopyRow
import Derived.Laws.OwnMore
import Derived.Deep.QuietTactic
import Derived.BigQuiet
namespace Go.Proofs.Ytiofpkfcinfhiaa
open Go.RowKit

theorem hide {p : Prop} (h : p) : Hid p := h

/-- Block g is just the cells cs of element type t, none frozen. -/
def Blk (w : World) (g : Nat) (t : TypeId) (cs : Array Value) : Prop := w.heap[g]? = some (.cells cs t (0, 0))

section
variable {w w' : World} {g : Nat} {t : TypeId} {cs : Array Value}
theorem Blk.lt (h : Blk w g t cs) : g < w.heap.size := by
  rcases Nat.lt_or_ge g w.heap.size with hlt | hge
  · exact hlt
  · unfold Blk at h; rw [Array.getElem?_eq_none hge] at h; cases h
theorem Blk.cell (h : Blk w g t cs) (i : Nat) : w.cell? ⟨g, i, none⟩ = cs[i]? := cell_of_row w g i cs t (0, 0) h
theorem Blk.frozen (h : Blk w g t cs) (i : Nat) : w.frozen? ⟨g, i, none⟩ = false := by unfold Blk at h; simp [World.frozen?, h]
theorem Blk.new (w : World) (t : TypeId) (cs : Array Value) : Blk (w.alloc (.cells cs t)) w.heap.size t cs := by
  show (w.heap.push _)[w.heap.size]? = _
  simp
theorem Blk.drew (h : Blk w g t cs) : Blk w.drew g t cs := h
theorem Blk.drewN (h : Blk w g t cs) (n : Nat) : Blk (w.drewN n) g t cs := h
theorem Blk.alloc (h : Blk w g t cs) (o : Obj) : Blk (w.alloc o) g t cs := (Below.heap_alloc w o g h.lt).trans h
theorem Blk.set_ (h : Blk w g t cs) (i : Nat) (u : Value) : Blk (w.setCell ⟨g, i, none⟩ u) g t (cs.setIfInBounds i u) := by
  unfold Blk at h ⊢
  simp [World.setCell, Array.getElem?_modify, h]
theorem Blk.far (h : Blk w g t cs) {p : Addr} (hp : g ≠ p.block) (u : Value) : Blk (w.setCell p u) g t cs := (Below.heap_setCell w p u g hp).trans h
theorem Blk.row (h : Blk w g t cs) (cs' : Array Value) : Blk (w.setRow g cs') g t cs' := setRow_heap w g cs cs' t _ h
theorem Blk.below {B : Nat} (h : Blk w g t cs) (hb : Below B w w') (hg : g < B) : Blk w' g t cs := (hb.block g hg).trans h
theorem Blk.ne_ {g' : Nat} {t' : TypeId} {cs' : Array Value} (h : Blk w g t cs) (h' : Blk w g' t' cs') (hne : t ≠ t') : g ≠ g' := by
  rintro rfl
  unfold Blk at h h'
  rw [h] at h'
  injection h' with h'
  injection h' with _ ht
  exact hne ht
end

/-- Outside the blocks from lo on, below hi, nothing that was there has turned; the streams are as they were. -/
structure Apart (lo hi : Nat) (w w' : World) : Prop where
  os : w'.os = w.os
  tape : w'.tape = w.tape
  output : w'.output = w.output
  size : w.heap.size ≤ w'.heap.size
  block : ∀ i, i < w.heap.size → (i < lo ∨ hi ≤ i) → w'.heap[i]? = w.heap[i]?

section
variable {lo hi B : Nat} {w w' w'' : World}
theorem Apart.refl (lo hi : Nat) (w : World) : Apart lo hi w w := ⟨rfl, rfl, rfl, Nat.le_refl _, fun _ _ _ => rfl⟩
theorem Apart.trans (h : Apart lo hi w w') (k : Apart lo hi w' w'') : Apart lo hi w w'' :=
  ⟨k.os.trans h.os, k.tape.trans h.tape, k.output.trans h.output, Nat.le_trans h.size k.size, fun i hi hr => (k.block i (Nat.lt_of_lt_of_le hi h.size) hr).trans (h.block i hi hr)⟩
theorem Apart.of_below (h : Below w.heap.size w w') : Apart lo hi w w' := ⟨h.os, h.tape, h.output, h.size, fun i hi _ => h.block i hi⟩
theorem Apart.drew (h : Apart lo hi w w') : Apart lo hi w w'.drew := ⟨h.os, h.tape, h.output, h.size, h.block⟩
theorem Apart.drewN (h : Apart lo hi w w') (n : Nat) : Apart lo hi w (w'.drewN n) := ⟨h.os, h.tape, h.output, h.size, h.block⟩
theorem Apart.alloc (h : Apart lo hi w w') (o : Obj) : Apart lo hi w (w'.alloc o) :=
  h.trans ⟨rfl, rfl, rfl, by simp, fun i hi _ => Below.heap_alloc _ _ _ hi⟩
theorem Apart.setCell (h : Apart lo hi w w') {p : Addr} (hp : (lo ≤ p.block ∧ p.block < hi) ∨ w.heap.size ≤ p.block) (u : Value) : Apart lo hi w (w'.setCell p u) :=
  ⟨h.os, h.tape, h.output, by simpa [World.setCell] using h.size, fun i hi hr => (Below.heap_setCell w' p u i (by omega)).trans (h.block i hi hr)⟩
theorem heap_setRow (w : World) (g : Nat) (cs : Array Value) (i : Nat) (h : i ≠ g) : (w.setRow g cs).heap[i]? = w.heap[i]? := by
  simp only [World.setRow, Array.getElem?_modify]
  rw [if_neg (by omega)]
theorem Apart.setRow (h : Apart lo hi w w') {g : Nat} (hp : (lo ≤ g ∧ g < hi) ∨ w.heap.size ≤ g) (cs : Array Value) : Apart lo hi w (w'.setRow g cs) :=
  ⟨h.os, h.tape, h.output, by simpa [World.setRow] using h.size, fun i hi hr => (heap_setRow w' g cs i (by omega)).trans (h.block i hi hr)⟩
/-- Below the range nothing has turned. -/
theorem Apart.below (h : Apart lo hi w w') (hl : lo ≤ w.heap.size) : Below lo w w' :=
  ⟨h.os, h.tape, h.output, h.size, fun k hk => h.block k (by omega) (.inl hk)⟩
theorem Apart.mono {lo' hi' : Nat} (h : Apart lo hi w w') (h1 : lo' ≤ lo) (h2 : hi ≤ hi') : Apart lo' hi' w w' :=
  ⟨h.os, h.tape, h.output, h.size, fun i hi hr => h.block i hi (by omega)⟩
theorem Blk.apart {g : Nat} {t : TypeId} {cs : Array Value} (h : Blk w g t cs) (ha : Apart lo hi w w') (hg : g < lo ∨ hi ≤ g) : Blk w' g t cs := (ha.block g h.lt hg).trans h
theorem Apart.grown {row : Option Nat} (h : Apart lo hi w w') (hg : w'.grownBy w'' row) (hr : ∀ k, row = some k → (lo ≤ k ∧ k < hi) ∨ w.heap.size ≤ k) : Apart lo hi w w'' :=
  ⟨hg.os.trans h.os, hg.tape.trans h.tape, hg.output.trans h.output, Nat.le_trans h.size hg.size, fun i hi hx => (hg.block i (Nat.lt_of_lt_of_le hi h.size) (fun e => by have := hr i e.symm; omega)).trans (h.block i hi hx)⟩
theorem below_drewN {B : Nat} {a w : World} (h : Below B a w) (n : Nat) : Below B a (w.drewN n) := ⟨h.os, h.tape, h.output, h.size, h.block⟩
theorem below_setRow {B : Nat} {a w : World} (h : Below B a w) {g : Nat} (hg : B ≤ g) (cs : Array Value) : Below B a (w.setRow g cs) :=
  ⟨h.os, h.tape, h.output, by simpa [World.setRow] using h.size, fun k hk => (heap_setRow w g cs k (by omega)).trans (h.block k hk)⟩
end

end Go.Proofs.Ytiofpkfcinfhiaa
