/-
  The walk of twins over the answers of Reads in turn.
-/
import Derived.Test.YtiofpkfcinfhiaaSame
import Derived.Test.YtiofpkfcinfhiaaPlayTwo
import Derived.Test.YtiofpkfcinfhiaaOwnWords
import Derived.StillTailTactics
import Derived.IntWalk
namespace Go.Proofs.Ytiofpkfcinfhiaa
open Go.RowKit

/-- The cells that lie from where a pointer leads. -/
def cellsAt (v : Value) (w : World) (n : Nat) : Array Value :=
  match v with
  | .pointer (some ad) => (Array.range n).map fun j => (w.cell? ⟨ad.block, ad.off + j, none⟩).getD undef
  | _ => #[]
def AnsAt (v : Value) (w : World) : Prop := ∃ (g o : Nat) (cs : Array Value), v = .pointer (some ⟨g, o, none⟩) ∧ cs.size = 8 ∧ w.rangeAt g o cs.toList
theorem cellsAt_range {w : World} {g o n : Nat} {cs : Array Value} (hs : cs.size = n) (h : w.rangeAt g o cs.toList) : cellsAt (.pointer (some ⟨g, o, none⟩)) w n = cs := by
  unfold cellsAt
  apply Array.ext
  · simp [hs]
  · intro i h1 h2
    have h3 : cs.toList[i]? = some cs[i] := by simp [h2]
    simp [h i _ h3]
theorem exec_ans (ρ : Operand → Value) (d : Option Tmp) (x : Operand) (ty : TypeId) (pos : String) (af : Array Edge) (gd : Option (Nat × Bool)) (w : World) (h : AnsAt (ρ x) w) :
    (execOp ρ ⟨d, .load 37 x, ty, pos, af, gd⟩).run Try.prog w = .ok (.value (.agg (cellsAt (ρ x) w 8))) w := by
  obtain ⟨g, o, cs, hx, h8, hc⟩ := h
  have hsz : (Try.prog.info? 37).map (·.size) = some cs.toList.length := by rw [Array.length_toList, h8]; exact size37
  simp only [execOp, Sem.run_bind, hx, run_loadAt_mid w g o 37 cs.toList _ hc Try.underlying37 rfl hsz, Result.andThen_ok, Sem.run_pure, cellsAt_range h8 hc]
attribute [local go_sem ↓] exec_ans

/-- What holds at the head of a round of twins. -/
def TwinsRel (w : World) (m : Nat) (i : Value) (wr : World) : Prop := ∃ k : Nat, k ≤ m ∧ k % 2 = 0 ∧ i = .int .i64 k ∧ Below w.heap.size w wr

theorem same_read (g : Gen) (hg : g.Ok) (n B B' : Nat) (w : World) (hB : Blk w B 5 (g.bytes n).toArray) (hB' : Blk w B' 5 (g.bytes n).toArray) :
    Calls Try.prog 18 #[.agg (ansRead n B), .agg (ansRead n B')] w fun e w' => e = .returned (.bool true) ∧ Below w.heap.size w w' := by
  obtain ⟨bs, hbs⟩ := bytes_ints (Gen.bytes_byte hg n)
  have hl : bs.length = n := by rw [← Gen.bytes_length hg n, hbs, List.length_map]
  rw [hbs] at hB hB'
  rw [← hl]
  exact same_ints bs B B' w hB hB'

set_option maxRecDepth 100000 in
set_option maxHeartbeats 2000000 in
theorem twins_read (base : Nat) (A : Option Addr) (m c : Nat) (h2 : m % 2 = 0) (hl : m ≤ 4194304) (ns : Nat → Nat) (Bs : Nat → Nat) (gs : Nat → Gen) (hok : ∀ i, (gs i).Ok) (w : World)
    (hown : w.ownsRow base 37 8 (.slice A m c) m (flat (fun j => ansRead (ns (j / 2)) (Bs j)) m))
    (hBs : ∀ j, j < m → Blk w (Bs j) 5 ((gs (j / 2)).bytes (ns (j / 2))).toArray) :
    Calls Try.prog 10 #[.slice A m c, .int .i64 0] w fun e w' => e = .returned (.bool true) ∧ Below w.heap.size w w' := by
  have Hown := hide hown
  have HBs := hide hBs
  have Hok := hide hok
  have H2 := hide h2
  clear hown hBs hok h2
  go_enter Try.func10, Try.ntmps10
  go_wp2_with fail
  go_loopw [5] (fun i wr => TwinsRel w m i wr) (fun i _ => m - (intOf i).toNat)
  case atStart => exact ⟨0, Nat.zero_le _, rfl, rfl, Below.refl _ _⟩
  case round =>
    obtain ⟨k, hk, hk2, rfl, hbel⟩ := hrel
    have Hbel := hide hbel
    have Hk2 := hide hk2
    clear hbel hk2
    by_cases hlt : k + 1 < m
    · obtain ⟨g, rfl⟩ := own_some Hown.out (by omega)
      have hgw : g < w.heap.size := by
        rcases Hown.out.2 with ⟨h, _⟩ | ⟨g', cap, cur, hv, _, hh, _⟩
        · cases h
        · injection hv with hv
          injection hv with hv
          injection hv with hv
          subst hv
          exact Blk.lt (t := 37) hh
      have hr : ∀ i, i < m → ∀ W, Below w.heap.size w W → W.rangeAt g (i * 8) (ansRead (ns (i / 2)) (Bs i)).toList := fun i hi W hW j v hv => by
        have hj : j < 8 := by have := (List.getElem?_eq_some_iff.1 hv).1; simpa [ansRead] using this
        rw [hW.cell (p := ⟨g, i * 8 + j, none⟩) hgw, Hown.out.cellAt (i * 8 + j) (by omega), flat_at _ _ (fun _ _ => rfl) i j hi hj]
        simpa using hv
      have hdiv : (k + 1) / 2 = k / 2 := by have := Hk2.out; omega
      have Hall : Hid (∀ W, Below w.heap.size w W → AnsAt (.pointer (some ⟨g, k * 8, none⟩)) W ∧ AnsAt (.pointer (some ⟨g, (k + 1) * 8, none⟩)) W ∧ cellsAt (.pointer (some ⟨g, k * 8, none⟩)) W 8 = ansRead (ns (k / 2)) (Bs k) ∧ cellsAt (.pointer (some ⟨g, (k + 1) * 8, none⟩)) W 8 = ansRead (ns (k / 2)) (Bs (k + 1))) := fun W hW => by
        have h0 := hr k (by omega) W hW
        have h1 := hr (k + 1) (by omega) W hW
        rw [hdiv] at h1
        exact ⟨⟨_, _, _, rfl, rfl, h0⟩, ⟨_, _, _, rfl, rfl, h1⟩, cellsAt_range rfl h0, cellsAt_range rfl h1⟩
      have Hc : Hid (Calls Try.prog 18 #[.agg (ansRead (ns (k / 2)) (Bs k)), .agg (ansRead (ns (k / 2)) (Bs (k + 1)))] wr.drew fun e w' => e = .returned (.bool true) ∧ Below wr.drew.heap.size wr.drew w') := by
        have h0 := HBs.out k (by omega)
        have h1 := HBs.out (k + 1) (by omega)
        rw [hdiv] at h1
        exact same_read (gs (k / 2)) (Hok.out _) (ns (k / 2)) (Bs k) (Bs (k + 1)) wr.drew (h0.below Hbel.out h0.lt).drew (h1.below Hbel.out h1.lt).drew
      have hkm : k < m := by omega
      have hwz : w.heap.size ≤ wr.heap.size := Hbel.out.size
      clear hr hdiv
      go_wp2_with fail
      have hs0 := Hall.out wr Hbel.out
      have hs1 : IntKind.i64.wrap (↑k + 1) = ↑k + 1 := IntWalk.i64_in _ (by omega)
      have hs2 : 0 ≤ (k : Int) + 1 := by omega
      have hs3 : ((k : Int) + 1).toNat = k + 1 := by omega
      obtain ⟨t0, t1, t2, t3⟩ := hs0
      go_region_held3 (fun w' => AnsAt (.pointer (some ⟨g, k * 8, none⟩)) w' ∧ AnsAt (.pointer (some ⟨g, (k + 1) * 8, none⟩)) w' ∧ cellsAt (.pointer (some ⟨g, k * 8, none⟩)) w' 8 = ansRead (ns (k / 2)) (Bs k) ∧ cellsAt (.pointer (some ⟨g, (k + 1) * 8, none⟩)) w' 8 = ansRead (ns (k / 2)) (Bs (k + 1))) (first | (exact ⟨by assumption, by assumption, by assumption, by assumption⟩)) (first
        | (go_at_call 18; refine Hc.out.mono ?_; rintro e w1 ⟨rfl, hb1⟩; have hw1 := Hbel.out.drew.trans (hb1.mono hwz); obtain ⟨u0, u1, u2, u3⟩ := Hall.out w1 hw1; have Hw1 := hide hw1; clear hb1 hw1))
      clear t0 t1 t2 t3 u0 u1 u2 u3 hs1 hs2 hs3
      go_wp2
      have hm2 := H2.out
      have hk2 := Hk2.out
      exact ⟨⟨k + 2, by omega, by omega, by go_num, Hw1.out⟩, by simp [intOf]; omega⟩
    · go_wp2
      go_ret
      exact ⟨rfl, Hbel.out⟩

end Go.Proofs.Ytiofpkfcinfhiaa
