/-
  The player with a source of package impl: what its steps leave, and how a game over it begins.
-/
import Derived.Test.YtiofpkfcinfhiaaPlay
namespace Go.Proofs.Ytiofpkfcinfhiaa
open Go.RowKit

/-- A player with a source of package impl, k words of which have been drawn; its blocks lie from lo on, below hi. -/
def OwnI (lo : Nat) (T t : TypeId) (cs : Array Value) (ws : List Int) (hi p k : Nat) (W : World) : Prop :=
  k ≤ ws.length → ∃ G O R Wd arr v, OwnAt T t cs p G O R Wd arr v (ws.drop k) W ∧ (lo ≤ p ∧ p < hi) ∧ (lo ≤ G ∧ G < hi) ∧ (lo ≤ O ∧ O < hi) ∧ (lo ≤ R ∧ R < hi) ∧ (0 < (ws.drop k).length → lo ≤ Wd ∧ Wd < hi)

theorem OwnAt.below {T t : TypeId} {cs : Array Value} {p G O R Wd : Nat} {arr : Array Value} {v : Value} {ws : List Int} {a b : World} {hi : Nat} (h : OwnAt T t cs p G O R Wd arr v ws a) (hb : Below hi a b) (hp : p < hi) (hG : G < hi) (hO : O < hi) (hR : R < hi) (hW : 0 < ws.length → Wd < hi) :
    OwnAt T t cs p G O R Wd arr v ws b :=
  ⟨h.p.below hb hp, h.g.below hb hG, h.o.below hb hO, h.r.below hb hR, h.wi, fun h0 => (h.wd h0).below hb (hW h0)⟩

theorem OwnI.below {lo : Nat} {T t : TypeId} {cs : Array Value} {ws : List Int} {hi p k : Nat} {a b : World} (h : OwnI lo T t cs ws hi p k a) (hb : Below hi a b) : OwnI lo T t cs ws hi p k b := by
  intro hk
  obtain ⟨G, O, R, Wd, arr, v, ho, hp, hG, hO, hR, hW⟩ := h hk
  exact ⟨G, O, R, Wd, arr, v, ho.below hb hp.2 hG.2 hO.2 hR.2 (fun h0 => (hW h0).2), hp, hG, hO, hR, hW⟩

/-- What the k-th Uint64 of such a player is. -/
def ownWord (ws : List Int) (x : Int) (k : Nat) : Int := (ws[k]?).getD x

/-- step of the kind Uint64 over such a player. -/
theorem step_own (lo : Nat) (T : TypeId) (f : Nat) (t : TypeId) (hT : GenKind T f t) (cs : Array Value) (x : Int) (hx : GenAns f t cs x) (ws : List Int) (hi p k : Nat) (hk : k ≤ ws.length) (A : Option Addr) (n c : Nat) (W : World)
    (h : OwnI lo T t cs ws hi p k W) (hhi : hi ≤ W.heap.size) :
    Calls Try.prog 17 #[.pointer (some ⟨p, 0, none⟩), .agg (stepOf 6 0), .slice A n c] W fun e w' => e = .returned (.agg (ansWord (ownWord ws x k))) ∧ Apart lo hi W w' ∧ OwnI lo T t cs ws hi p (k + 1) w' := by
  obtain ⟨G, O, R, Wd, arr, v, ho, hp, hG, hO, hR, hW⟩ := h hk
  refine step_u64 p A n c W (ownWord ws x k) lo hi (OwnI lo T t cs ws hi p (k + 1)) hhi (fun a b ha hb => ha.below hb) (fun W1 hb1 hs1 => ?_)
  have ho1 := ho.below hb1 hp.2 hG.2 hO.2 hR.2 (fun h0 => (hW h0).2)
  refine ofRand_u64 p R _ _ W1 ho1.p (ownWord ws x k) lo hi (OwnI lo T t cs ws hi p (k + 1)) hs1 (fun a b ha hb => ha.below hb) (fun W2 hb2 => ?_)
  have ho2 := ho1.below hb2 hp.2 hG.2 hO.2 hR.2 (fun h0 => (hW h0).2)
  refine rand_own R O W2 ho2.r (ownWord ws x k) (fun w' => Apart lo hi W2 w' ∧ OwnI lo T t cs ws hi p (k + 1) w') ?_
  by_cases hlt : k < ws.length
  · have hd : ws.drop k = ws[k] :: ws.drop (k + 1) := List.drop_eq_getElem_cons hlt
    have hwk : ownWord ws x k = ws[k] := by simp [ownWord, hlt]
    have hpos : 0 < (ws.drop k).length := by rw [List.length_drop]; omega
    have hwi := ho2.wi
    rw [hd] at hwi
    rw [hwk]
    refine (own_word O Wd arr v _ (ws[k]) (ws.drop (k + 1)) W2 ho2.o (ho2.wd hpos) hwi).mono fun e w' ⟨he, v', hv', hw'⟩ => ⟨he, ?_, fun hk1 => ?_⟩
    · subst hw'
      exact (Apart.refl _ _ W2).setCell (p := ⟨O, 0, none⟩) (.inl hO) _
    · subst hw'
      have n1 : p ≠ O := ho2.p.ne_ ho2.o (by decide)
      have n2 : G ≠ O := by
        rcases hT with ⟨rfl, rfl, rfl⟩ | ⟨rfl, rfl, rfl⟩
        · exact ho2.g.ne_ ho2.o (by decide)
        · exact ho2.g.ne_ ho2.o (by decide)
      have n3 : R ≠ O := ho2.r.ne_ ho2.o (by decide)
      have n4 : Wd ≠ O := (ho2.wd hpos).ne_ ho2.o (by decide)
      exact ⟨G, O, R, Wd, arr, v', ⟨ho2.p.far (p := ⟨O, 0, none⟩) n1 _, ho2.g.far (p := ⟨O, 0, none⟩) n2 _, ho2.o.set_ 0 _, ho2.r.far (p := ⟨O, 0, none⟩) n3 _, hv', fun _ => (ho2.wd hpos).far (p := ⟨O, 0, none⟩) n4 _⟩, hp, hG, hO, hR, fun _ => hW hpos⟩
  · have hd : ws.drop k = [] := List.drop_eq_nil_of_le (by omega)
    have hwk : ownWord ws x k = x := by simp [ownWord, List.getElem?_eq_none (show ws.length ≤ k by omega)]
    rw [hwk]
    have hwi := ho2.wi
    rw [hd] at hwi
    obtain ⟨A1, c1, hv, _⟩ := hwi
    have hob := ho2.o
    rw [hv] at hob
    refine own_gen O G T f t hT A1 c1 W2 hob x _ ((hx G W2 ho2.g).mono fun e w' ⟨he, ha⟩ => ⟨he, ha.mono hG.1 hG.2, fun hk1 => absurd hk1 (by omega)⟩)

/-- step of the kind Word over such a player, as its first call. -/
theorem step_gen (lo : Nat) (T : TypeId) (f : Nat) (t : TypeId) (hT : GenKind T f t) (cs : Array Value) (x : Int) (hx : GenAns f t cs x) (ws : List Int) (hi p : Nat) (A : Option Addr) (n c : Nat) (W : World)
    (h : OwnI lo T t cs ws hi p 0 W) (hhi : hi ≤ W.heap.size) :
    Calls Try.prog 17 #[.pointer (some ⟨p, 0, none⟩), .agg (stepOf 0 0), .slice A n c] W fun e w' => e = .returned (.agg (ansWord x)) ∧ Apart lo hi W w' ∧ True := by
  obtain ⟨G, O, R, Wd, arr, v, ho, hp, hG, hO, hR, hW⟩ := h (Nat.zero_le _)
  refine step_word p A n c W x lo hi (fun _ => True) hhi (fun _ _ _ _ => trivial) (fun W1 hb1 hs1 => ?_)
  have ho1 := ho.below hb1 hp.2 hG.2 hO.2 hR.2 (fun h0 => (hW h0).2)
  refine ofState_word p G T f t hT _ _ W1 ho1.p x lo hi (fun _ => True) hs1 (fun _ _ _ _ => trivial) (fun W2 hb2 => ?_)
  have ho2 := ho1.below hb2 hp.2 hG.2 hO.2 hR.2 (fun h0 => (hW h0).2)
  exact (hx G W2 ho2.g).mono fun e w' ⟨he, ha⟩ => ⟨he, ha.mono hG.1 hG.2, trivial⟩

/-- started, whatever the kind: which generator it is, and what it draws first, follow from the start. -/
theorem started_own (SC : Array Value) (one two : Nat) (kind : Int) (z : Nat → Int) (A : Option Addr) (c : Nat) (ws : List Int) (hs : StartIs SC one two kind z true (.slice A ws.length c)) (h2 : two < 18446744073709551616) (hl : ws.length ≤ 16777216) :
    ∃ T f t cs x, GenKind T f t ∧ GenAns f t cs x ∧ ∀ w, WordsFrom w A c ws → Calls Try.prog 16 #[.agg SC] w (StartedOwn T t cs ws w) := by
  by_cases k1 : kind = 1
  · obtain ⟨x, hx⟩ := pcg_ans 0 0 (by omega)
    exact ⟨68, 92, 70, _, x, .inl ⟨rfl, rfl, rfl⟩, hx, fun w hw => started_zero SC one two kind z A c ws hs w hw hl (by simp [k1])⟩
  · by_cases k2 : kind = 2
    · obtain ⟨x, hx⟩ := cha_ans z
      exact ⟨71, 64, 96, _, x, .inr ⟨rfl, rfl, rfl⟩, hx, fun w hw => started_cha SC one two kind z A c ws hs w hw hl (by simp [k1]) (by simp [k2])⟩
    · obtain ⟨x, hx⟩ := pcg_ans one two h2
      exact ⟨68, 92, 70, _, x, .inl ⟨rfl, rfl, rfl⟩, hx, fun w hw => started_pcg SC one two kind z A c ws hs w hw hl (by simp [k1]) (by simp [k2])⟩

/-- What started leaves, as the head of a game. -/
theorem ownI_of_started {T t : TypeId} {cs : Array Value} {ws : List Int} {lo : Nat} {W : World} {e : Ending} {w' : World} (h : StartedOwn T t cs ws W e w') (hlo : lo ≤ W.heap.size) :
    ∃ p, e = .returned (.pointer (some ⟨p, 0, none⟩)) ∧ OwnI lo T t cs ws w'.heap.size p 0 w' ∧ Below W.heap.size W w' := by
  obtain ⟨p, G, O, R, Wd, arr, v, he, ho, hb, hp, hG, hO, hR, hW⟩ := h
  exact ⟨p, he, fun _ => ⟨G, O, R, Wd, arr, v, ho, ⟨by omega, ho.p.lt⟩, ⟨by omega, ho.g.lt⟩, ⟨by omega, ho.o.lt⟩, ⟨by omega, ho.r.lt⟩, fun h0 => ⟨by have := hW h0; omega, (ho.wd h0).lt⟩⟩, hb⟩

end Go.Proofs.Ytiofpkfcinfhiaa
