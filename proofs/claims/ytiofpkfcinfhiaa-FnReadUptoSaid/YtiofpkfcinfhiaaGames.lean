/-
  The two games that the law FnOwnWords plays.
-/
import Derived.Test.YtiofpkfcinfhiaaOwnPlay
namespace Go.Proofs.Ytiofpkfcinfhiaa
open Go.RowKit

theorem stepOf_one (op N : Int) : (stepOf op N).all (·.oneCell') = true := by simp [stepOf, Value.oneCell']

theorem flat_at (Ans : Nat → Array Value) (m : Nat) (h8 : ∀ i, i < m → (Ans i).size = 8) (i j : Nat) (hi : i < m) (hj : j < 8) : (flat Ans m)[i * 8 + j]? = (Ans i)[j]? := by
  induction m with
  | zero => omega
  | succ m ih =>
    have hl : ∀ k, k ≤ m → (flat Ans k).length = k * 8 := by
      intro k
      induction k with
      | zero => intro _; rfl
      | succ k ihk => intro hk; rw [flat_succ, List.length_append, ihk (by omega), Array.length_toList, h8 k (by omega)]; omega
    rw [flat_succ]
    by_cases him : i < m
    · rw [List.getElem?_append_left (by rw [hl m (Nat.le_refl _)]; omega)]
      exact ih (fun i hi => h8 i (by omega)) him
    · obtain rfl : i = m := by omega
      rw [List.getElem?_append_right (by rw [hl i (Nat.le_refl _)]; omega), hl i (Nat.le_refl _)]
      simp

/-- A game of n + 1 calls of Uint64. -/
theorem play_words (SC : Array Value) (hSC : SC.size = 37) (A : Option Addr) (c : Nat) (ws : List Int) (hl : ws.length ≤ 1048576) (T : TypeId) (f : Nat) (t : TypeId) (cs : Array Value) (x : Int) (hT : GenKind T f t) (hx : GenAns f t cs x)
    (hstart : ∀ w, WordsFrom w A c ws → Calls Try.prog 16 #[.agg SC] w (StartedOwn T t cs ws w)) (b o cap : Nat) (hcap : ws.length + 1 ≤ cap) (w : World) (hw : WordsFrom w A c ws) (hb : b < w.heap.size)
    (hst : ∀ i, i < ws.length + 1 → w.rangeAt b (o + i * 37) (stepOf 6 0).toList) :
    Calls Try.prog 7 #[.agg SC, .slice (some ⟨b, o, none⟩) (ws.length + 1) cap] w fun e w' => ∃ A c, e = .returned (.slice A (ws.length + 1) c) ∧ w'.ownsRow w.heap.size 37 8 (.slice A (ws.length + 1) c) (ws.length + 1) (flat (fun i => ansWord (ownWord ws x i)) (ws.length + 1)) ∧ Below w.heap.size w w' :=
  play_any SC hSC b o (ws.length + 1) cap hcap (by omega) (fun _ => stepOf 6 0) (fun i => ansWord (ownWord ws x i)) w hb hst (fun _ _ => rfl) (fun _ _ => stepOf_one _ _) (fun _ _ => rfl) (fun _ _ => ansWord_one _)
    (fun hi p k W => OwnI w.heap.size T t cs ws hi p k W) (fun hi p k a c h hb => h.below hb)
    (fun W hb => (hstart W (hw.below hb)).mono fun e w' h => ownI_of_started h hb.size)
    (fun hi p k A n c W hk h hhi => step_own w.heap.size T f t hT cs x hx ws hi p k (by omega) A n c W h hhi)

/-- A game of one call of Word. -/
theorem play_first (SC : Array Value) (hSC : SC.size = 37) (A : Option Addr) (c : Nat) (ws : List Int) (T : TypeId) (f : Nat) (t : TypeId) (cs : Array Value) (x : Int) (hT : GenKind T f t) (hx : GenAns f t cs x)
    (hstart : ∀ w, WordsFrom w A c ws → Calls Try.prog 16 #[.agg SC] w (StartedOwn T t cs ws w)) (b o cap : Nat) (hcap : 1 ≤ cap) (w : World) (hw : WordsFrom w A c ws) (hb : b < w.heap.size)
    (hst : w.rangeAt b o (stepOf 0 0).toList) :
    Calls Try.prog 7 #[.agg SC, .slice (some ⟨b, o, none⟩) 1 cap] w fun e w' => ∃ A c, e = .returned (.slice A 1 c) ∧ w'.ownsRow w.heap.size 37 8 (.slice A 1 c) 1 (flat (fun _ => ansWord x) 1) ∧ Below w.heap.size w w' :=
  play_any SC hSC b o 1 cap hcap (by omega) (fun _ => stepOf 0 0) (fun _ => ansWord x) w hb (fun i hi => by obtain rfl : i = 0 := (by omega); simpa using hst) (fun _ _ => rfl) (fun _ _ => stepOf_one _ _) (fun _ _ => rfl) (fun _ _ => ansWord_one _)
    (fun hi p k W => k = 0 → OwnI w.heap.size T t cs ws hi p 0 W) (fun hi p k a c h hb h0 => (h h0).below hb)
    (fun W hb => (hstart W (hw.below hb)).mono fun e w' h => by
      obtain ⟨p, he, hi, hbl⟩ := ownI_of_started h hb.size
      exact ⟨p, he, fun _ => hi, hbl⟩)
    (fun hi p k A n c W hk h hhi => (step_gen w.heap.size T f t hT cs x hx ws hi p A n c W (h (by omega)) hhi).mono fun e w' ⟨he, ha, _⟩ => ⟨he, ha, fun h0 => by omega⟩)

end Go.Proofs.Ytiofpkfcinfhiaa
