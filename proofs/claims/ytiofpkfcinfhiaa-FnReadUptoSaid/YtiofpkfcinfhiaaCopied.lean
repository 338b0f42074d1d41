/-
  The walks of copied and anew.
-/
import Derived.Test.YtiofpkfcinfhiaaWord
import Derived.Laws.AppendOwnNone
namespace Go.Proofs.Ytiofpkfcinfhiaa
open Go.RowKit

theorem info22 : (Try.prog.info? 22).map (fun i => (i.zero, i.size, i.bytes)) = some (some (.int .u64 0), 1, 8) := by kernel_rfl

theorem words_one (ws : List Int) : ∀ u ∈ ws.map (Value.int .u64), u.oneCell' = true := by
  intro u hu
  obtain ⟨x, _, rfl⟩ := List.mem_map.1 hu
  rfl

/-- What copied leaves: a row of the call's own that holds the words. -/
def Copied (ws : List Int) (w : World) (e : Ending) (w' : World) : Prop :=
  ∃ A c, e = .returned (.slice A ws.length c) ∧ w'.ownsRow w.heap.size 22 1 (.slice A ws.length c) ws.length (ws.map (Value.int .u64)) ∧ Below w.heap.size w w'

theorem own_form {w : World} {base : Nat} {e : TypeId} {size n : Nat} {v : Value} {xs : List Value} (h : w.ownsRow base e size v n xs) : ∃ A c, v = .slice A n c := by
  rcases h.2 with ⟨rfl, rfl⟩ | ⟨g, cap, _, rfl, _⟩
  · exact ⟨_, _, rfl⟩
  · exact ⟨_, _, rfl⟩

set_option maxHeartbeats 1000000 in
theorem copied_some (ad : Addr) (c : Nat) (ws : List Int) (w : World) (hr : ∀ j x, ws[j]? = some x → w.cell? (ad.add j) = some (.int .u64 x)) (hl : ws.length ≤ 16777216) (had : 0 < ws.length → ad.block < w.heap.size) :
    Calls Try.prog 25 #[.slice (some ad) ws.length c] w (Copied ws w) := by
  obtain ⟨i0, hi, hz0, hz1, hz2⟩ := info_parts info22
  have Hr : Hid (∀ o j u, (ws.map (Value.int .u64))[j]? = some u → (w.alloc o).cell? (ad.add j) = some u) := fun o j u hu => by
    simp only [List.getElem?_map, Option.map_eq_some_iff] at hu
    obtain ⟨x, hx, rfl⟩ := hu
    have hpos : 0 < ws.length := by have := (List.getElem?_eq_some_iff.1 hx).1; omega
    rw [World.cell?_alloc_lt w o _ (by unfold Addr.add; split <;> exact had hpos)]
    exact hr j x hx
  have HO : Hid ((w.alloc (.cells #[] 22)).ownsRow w.heap.size 22 1 (.slice (some ⟨w.heap.size, 0, none⟩) 0 0) 0 []) := ⟨rfl, .inr ⟨w.heap.size, 0, #[], rfl, Nat.le_refl _, Blk.new w 22 #[], Nat.le_refl _, Nat.zero_le _, rfl, rfl⟩⟩
  clear hr
  go_enter Try.func25, Try.ntmps25
  go_wp2_with (at_builtin; (refine wpList_append_own _ rfl (.tmp 3) (.tmp 4) _ rfl w.heap.size 22 i0 _ 1 8 Try.underlying24 hi hz0 hz1 hz2 rfl (by omega) (.slice (some ⟨w.heap.size, 0, none⟩) 0 0) 0 [] rfl HO.out ad ws.length c (ws.map (Value.int .u64)) rfl (by simp) (Hr.out _) (words_one ws) (by simp only [maxLen]; omega) (by omega) (by simp) ?_); intro v1 w1 hown1 hg1 hat1)
  go_ret
  simp only [Nat.zero_add, List.nil_append] at hown1
  obtain ⟨A1, c1, hv⟩ := own_form hown1
  refine ⟨A1, c1, by simp [hv], by rw [← hv]; exact hown1, ?_⟩
  exact ((Below.refl _ w).alloc (Nat.le_refl _) _).grown hg1 (by simp) (fun k hk => by simp [Value.ownBlock] at hk; omega)

set_option maxHeartbeats 1000000 in
theorem copied_none (w : World) : Calls Try.prog 25 #[.slice none 0 0] w (Copied [] w) := by
  obtain ⟨i0, hi, hz0, hz1, hz2⟩ := info_parts info22
  have HO : Hid ((w.alloc (.cells #[] 22)).ownsRow w.heap.size 22 1 (.slice (some ⟨w.heap.size, 0, none⟩) 0 0) 0 []) := ⟨rfl, .inr ⟨w.heap.size, 0, #[], rfl, Nat.le_refl _, Blk.new w 22 #[], Nat.le_refl _, Nat.zero_le _, rfl, rfl⟩⟩
  go_enter Try.func25, Try.ntmps25
  go_wp2_with (at_builtin; (refine wpList_append_own_none rfl (.tmp 3) (.tmp 4) _ rfl w.heap.size 22 i0 1 Try.underlying24 hi (.slice (some ⟨w.heap.size, 0, none⟩) 0 0) 0 [] rfl HO.out rfl ?_))
  go_ret
  exact ⟨_, _, rfl, HO.out, (Below.refl _ w).alloc (Nat.le_refl _) _⟩

set_option maxHeartbeats 1000000 in
/-- anew: a new Rand over the source. -/
theorem anew_any (p : Nat) (g r : Value) (t : TypeId) (sx : Value) (w : World) (hb : Blk w p 67 #[g, .iface t sx, r]) :
    Calls Try.prog 26 #[.pointer (some ⟨p, 0, none⟩)] w fun e w' => e = .returned (.tuple #[]) ∧ w' = (w.setCell ⟨p, 2, none⟩ (.pointer (some ⟨w.heap.size, 0, none⟩))).alloc (.cells #[.iface t sx] 131) := by
  have c1 : w.cell? ⟨p, 1, none⟩ = some (.iface t sx) := hb.cell 1
  have c2 : w.cell? ⟨p, 2, none⟩ = some r := hb.cell 2
  have k2 := hb.frozen 2
  have hlt := hb.lt
  have hn0 : ¬ p = w.heap.size := by omega
  clear hb
  go_enter Try.func26, Try.ntmps26
  go_wp2_with fail
  go_call (new_any t sx _) as e w' ⟨rfl, rfl⟩
  go_wp2
  go_end0
  exact ⟨rfl, rfl⟩

end Go.Proofs.Ytiofpkfcinfhiaa
