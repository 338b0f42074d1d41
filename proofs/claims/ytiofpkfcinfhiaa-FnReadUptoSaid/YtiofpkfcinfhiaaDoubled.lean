/-
  The walk of doubled over a script of Reads.
-/
import Derived.Test.YtiofpkfcinfhiaaSteps
import Derived.Maps.OwnRows
namespace Go.Proofs.Ytiofpkfcinfhiaa
open Go.RowKit

attribute [local go_sem] stepVal_agg
attribute [local go_sem ↓] exec_two

/-- Whose turn it is, so many times. -/
def turns (k : Nat) : List Value := (List.range k).map fun i => Value.bool (decide (i % 2 = 1))
theorem turns_two (k : Nat) : turns (2 * (k + 1)) = turns (2 * k) ++ [.bool false, .bool true] := by
  unfold turns
  rw [show 2 * (k + 1) = 2 * k + 1 + 1 by omega, List.range_succ, List.range_succ]
  simp only [List.map_append, List.map_cons, List.map_nil, List.append_assoc, List.cons_append, List.nil_append]
  rw [show decide (2 * k % 2 = 1) = false by simp, show decide ((2 * k + 1) % 2 = 1) = true by simp [Nat.add_mod]]
theorem flat_two (f : Nat → Array Value) (k : Nat) : flat f (2 * (k + 1)) = flat f (2 * k) ++ ((f (2 * k)).toList ++ (f (2 * k + 1)).toList) := by
  rw [show 2 * (k + 1) = 2 * k + 1 + 1 by omega, flat_succ, flat_succ, List.append_assoc]

theorem own_grown {base base' : Nat} {w w' : World} {e e' : TypeId} {size size' n n' : Nat} {v u : Value} {xs ys : List Value} (h : w.ownsRow base e size v n xs) (h' : w.ownsRow base' e' size' u n' ys) (hne : e ≠ e') (hg : w.grownBy w' u.ownBlock) : w'.ownsRow base e size v n xs := by
  refine h.kept hg ?_
  rcases h.2 with ⟨rfl, _⟩ | ⟨g, cap, cur, rfl, hb, hh, _⟩
  · left; rfl
  · right
    exact own_ne (t := e) (cs := cur) h' hh hne
theorem two_bools (w : World) (j : Nat) (u : Value) (h : [Value.bool false, Value.bool true][j]? = some u) : (w.alloc (.cells #[.bool false, .bool true] 4)).cell? ((⟨w.heap.size, 0, none⟩ : Addr).add j) = some u := by
  have hadd : (⟨w.heap.size, 0, none⟩ : Addr).add j = ⟨w.heap.size, j, none⟩ := by unfold Addr.add; split <;> simp_all
  rw [hadd, (Blk.new w 4 #[.bool false, .bool true]).cell j]
  simpa using h

/-- What holds at the head of a round of doubled. -/
def DoubleRel (w0 : World) (N : Nat → Int) (l : Nat) (v u i : Value) (wr : World) : Prop :=
  ∃ k : Nat, k ≤ l ∧ i = .int .i64 k ∧ (∃ A c, v = .slice A (2 * k) c) ∧ (∃ A c, u = .slice A (2 * k) c) ∧
    wr.ownsRow w0.heap.size 30 37 v (2 * k) (flat (fun j => stepOf 5 (N (j / 2))) (2 * k)) ∧ wr.ownsRow w0.heap.size 4 1 u (2 * k) (turns (2 * k)) ∧ Below w0.heap.size w0 wr

set_option maxRecDepth 100000 in
set_option maxHeartbeats 2000000 in
theorem doubled_read (b o l cap : Nat) (hcap : l ≤ cap) (hl : l ≤ 2097152) (N : Nat → Int) (w : World) (hb : b < w.heap.size) (hst : ∀ i, i < l → w.rangeAt b (o + i * 37) (stepOf 5 (N i)).toList) :
    Calls Try.prog 8 #[.slice (some ⟨b, o, none⟩) l cap] w fun e w' => ∃ (A : Option Addr) (c : Nat) (A' : Option Addr) (c' : Nat), e = .returned (.tuple #[.slice A (2 * l) c, .slice A' (2 * l) c']) ∧
      w'.ownsRow w.heap.size 30 37 (.slice A (2 * l) c) (2 * l) (flat (fun j => stepOf 5 (N (j / 2))) (2 * l)) ∧ w'.ownsRow w.heap.size 4 1 (.slice A' (2 * l) c') (2 * l) (turns (2 * l)) ∧ Below w.heap.size w w' := by
  have Hst := hide hst
  clear hst
  go_enter Try.func8, Try.ntmps8
  go_wp2_with fail
  go_loopw [2, 3, 8] (fun v u i wr => DoubleRel w N l v u i wr) (fun _ _ i _ => l - (intOf i).toNat)
  case atStart => exact ⟨0, Nat.zero_le _, rfl, ⟨_, _, rfl⟩, ⟨_, _, rfl⟩, ⟨rfl, .inl ⟨rfl, rfl⟩⟩, ⟨rfl, .inl ⟨rfl, rfl⟩⟩, Below.refl _ _⟩
  case round =>
    obtain ⟨k, hk, rfl, ⟨A, c, rfl⟩, ⟨A', c', rfl⟩, hown, hown', hbel⟩ := hrel
    have Hown := hide hown
    have Hown' := hide hown'
    have Hbel := hide hbel
    have hwsz : w.heap.size ≤ wr.heap.size := hbel.size
    clear hown hown' hbel
    by_cases hlt : k < l
    · obtain ⟨n, hn⟩ : ∃ n, N k = n := ⟨_, rfl⟩
      have Hld : Hid (wr.rangeAt b (o + k * 37) (stepOf 5 n).toList) := by rw [← hn]; exact fun j v hv => (Hbel.out.cell (p := ⟨b, o + k * 37 + j, none⟩) hb).trans (Hst.out k hlt j v hv)
      have Hsz30 : Hid ((Try.prog.info? 30).map (·.size) = some (stepOf 5 n).toList.length) := by rw [size30]; rfl
      have Hsz30' : Hid ((Try.prog.info? 30).map (·.size) = some (stepOf 5 n).size) := by rw [size30]; rfl
      have hst : (storeCells ⟨wr.heap.size, 0, none⟩ (stepOf 5 n).toList).run Try.prog (wr.alloc (.cells #[.int .i64 0, .int .i64 0, .int .u64 0, .int .u64 0, .slice none 0 0, .int .u8 0, .int .u8 0, .int .u8 0, .int .u8 0, .int .u8 0, .int .u8 0, .int .u8 0, .int .u8 0, .int .u8 0, .int .u8 0, .int .u8 0, .int .u8 0, .int .u8 0, .int .u8 0, .int .u8 0, .int .u8 0, .int .u8 0, .int .u8 0, .int .u8 0, .int .u8 0, .int .u8 0, .int .u8 0, .int .u8 0, .int .u8 0, .int .u8 0, .int .u8 0, .int .u8 0, .int .u8 0, .int .u8 0, .int .u8 0, .int .u8 0, .int .u8 0] 30)) = .ok () (wr.alloc (.cells (stepOf 5 n) 30)) := by
        rw [stepZero_eq, run_store_row wr.heap.size 30 (stepOf 0 0) (stepOf 5 n) _ (Blk.new wr 30 (stepOf 0 0)) rfl (stepOf_ones _ _), World.setRow_alloc_new]
      have hs37 : (stepOf 5 n).size = 37 := rfl
      have HN := hide hn
      clear hn
      have HO : Hid (((wr.alloc (.cells (stepOf 5 n) 30)).alloc (.cells (twoCells (.agg (stepOf 5 n))) 30)).ownsRow w.heap.size 30 37 (.slice A (2 * k) c) (2 * k) (flat (fun j => stepOf 5 (N (j / 2))) (2 * k))) := (Hown.out.alloc _).alloc _
      have HO' : Hid (((wr.alloc (.cells (stepOf 5 n) 30)).alloc (.cells (twoCells (.agg (stepOf 5 n))) 30)).ownsRow w.heap.size 4 1 (.slice A' (2 * k) c') (2 * k) (turns (2 * k))) := (Hown'.out.alloc _).alloc _
      have Hnew : Hid (∀ j u, ((stepOf 5 n).toList ++ (stepOf 5 n).toList)[j]? = some u → ((wr.alloc (.cells (stepOf 5 n) 30)).alloc (.cells (twoCells (.agg (stepOf 5 n))) 30)).cell? ((⟨wr.heap.size + 1, 0, none⟩ : Addr).add j) = some u) := fun j u hu => by
        have hadd : (⟨wr.heap.size + 1, 0, none⟩ : Addr).add j = ⟨wr.heap.size + 1, j, none⟩ := by unfold Addr.add; split <;> simp_all
        have h := Blk.new (wr.alloc (.cells (stepOf 5 n) 30)) 30 (twoCells (.agg (stepOf 5 n)))
        rw [World.size_alloc] at h
        rw [hadd, h.cell j]
        exact (List.getElem?_toArray ..).trans hu
      have Hone : Hid (∀ u ∈ (stepOf 5 n).toList ++ (stepOf 5 n).toList, u.oneCell' = true) := fun u hu => by
        rw [List.mem_append, or_self] at hu
        exact (Array.all_eq_true_iff_forall_mem.1 (stepOf_ones 5 n)) u (by simpa using hu)
      have Hbel1 : Hid (Below w.heap.size w ((wr.alloc (.cells (stepOf 5 n) 30)).alloc (.cells (twoCells (.agg (stepOf 5 n))) 30))) := (Hbel.out.alloc hwsz _).alloc (by simp; omega) _
      obtain ⟨i0, hi, hz0, hz1, hz2⟩ := info_parts info30
      have Hi := hide hi
      have Hz0 := hide hz0
      have Hz1 := hide hz1
      have Hz2 := hide hz2
      clear hi hz0 hz1 hz2
      obtain ⟨i1, hi1, hy0, hy1, hy2⟩ := info_parts info4
      have Hi1 := hide hi1
      have Hy0 := hide hy0
      have Hy1 := hide hy1
      have Hy2 := hide hy2
      clear hi1 hy0 hy1 hy2
      have Hkeep : Hid (∀ w3, ((wr.alloc (.cells (stepOf 5 n) 30)).alloc (.cells (twoCells (.agg (stepOf 5 n))) 30)).grownBy w3 (Value.slice A (2 * k) c).ownBlock → (w3.alloc (.cells #[.bool false, .bool true] 4)).ownsRow w.heap.size 4 1 (.slice A' (2 * k) c') (2 * k) (turns (2 * k)) ∧ wr.heap.size + 2 ≤ w3.heap.size ∧ Below w.heap.size w w3) := fun w3 hg => by
        refine ⟨(own_grown HO'.out HO.out (by decide) hg).alloc _, by have := hg.size; simp at this; omega, Hbel1.out.grown hg (by simp; omega) (fun g hg => own_block_ge HO.out g hg)⟩
      go_wp2_with (first
        | (refine wpList_load_mid rfl 30 (.tmp 10) rfl b (o + k * 37) rfl (stepOf 5 n).toList _ Hld.out Try.underlying30 rfl Hsz30.out ?_)
        | (refine wpList_load_row rfl 30 (.tmp 5) rfl wr.heap.size (by rfl) 30 (stepOf 5 n) (0, 0) _ (by exact Blk.new wr 30 (stepOf 5 n)) Try.underlying30 rfl Hsz30'.out ?_)
        | (at_builtin; refine wpList_append_own _ rfl (.tmp 12) (.tmp 15) _ rfl w.heap.size 30 i0 _ 37 88 Try.underlying27 Hi.out Hz0.out Hz1.out Hz2.out rfl (by omega) (.slice A (2 * k) c) (2 * k) _ rfl HO.out ⟨wr.heap.size + 1, 0, none⟩ 2 2 ((stepOf 5 n).toList ++ (stepOf 5 n).toList) rfl rfl Hnew.out Hone.out (by simp only [maxLen]; omega) (by omega) (by simp; omega) ?_; intro v3 w3 hown3 hg3 hat3; have Hown3 := hide hown3; have Hg3 := hide hg3; have hsz3 := (Hkeep.out w3 hg3).2.1; clear hown3 hg3 hat3)
        | (at_builtin; refine wpList_append_own _ rfl (.tmp 17) (.tmp 18) _ rfl w.heap.size 4 i1 _ 1 1 Try.underlying41 Hi1.out Hy0.out Hy1.out Hy2.out rfl (by omega) (.slice A' (2 * k) c') (2 * k) _ rfl (Hkeep.out w3 Hg3.out).1 ⟨w3.heap.size, 0, none⟩ 2 2 [.bool false, .bool true] rfl rfl (two_bools w3) (by simp [Value.oneCell']) (by simp only [maxLen]; omega) (by omega) (by simp; omega) ?_; intro v4 w4 hown4 hg4 hat4; have Hown4 := hide hown4; have Hg4 := hide hg4; clear hown4 hg4 hat4))
      have hk3 := Hkeep.out w3 Hg3.out
      have hO3 : (w3.alloc (.cells #[.bool false, .bool true] 4)).ownsRow w.heap.size 30 37 v3 (2 * k + 2) (flat (fun j => stepOf 5 (N (j / 2))) (2 * k) ++ ((stepOf 5 n).toList ++ (stepOf 5 n).toList)) := Hown3.out.alloc _
      have hO4 := own_grown hO3 hk3.1 (by decide) Hg4.out
      refine ⟨⟨k + 1, by omega, by go_num, own_form hO4, own_form Hown4.out, ?_, ?_, (hk3.2.2.alloc (by omega) _).grown Hg4.out (by simp; omega) (fun g hg => own_block_ge hk3.1 g hg)⟩, by simp [intOf]; omega⟩
      · rw [flat_two, show 2 * k / 2 = k by omega, show (2 * k + 1) / 2 = k by omega, HN.out]
        exact hO4
      · rw [turns_two]
        exact Hown4.out
    · obtain rfl : k = l := by omega
      go_wp2
      go_ret2
      exact ⟨_, _, _, _, rfl, Hown.out, Hown'.out, Hbel.out⟩

end Go.Proofs.Ytiofpkfcinfhiaa
