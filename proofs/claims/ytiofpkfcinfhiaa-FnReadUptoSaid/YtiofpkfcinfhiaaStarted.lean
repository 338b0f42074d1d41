/-
  The walks of started with a source of package impl: a PCG, a zero PCG, a ChaCha8.
-/
import Derived.Test.YtiofpkfcinfhiaaCopied
import Derived.Deep.RegionHeld3
import Derived.Deep.MidRow
namespace Go.Proofs.Ytiofpkfcinfhiaa
open Go.RowKit

/-- The cells of a start. -/
structure StartIs (SC : Array Value) (one two kind : Int) (z : Nat → Int) (own : Bool) (wv : Value) : Prop where
  size : SC.size = 37
  c0 : SC[0]? = some (.int .u64 one)
  c1 : SC[1]? = some (.int .u64 two)
  c2 : SC[2]? = some (.int .i64 kind)
  key : ∀ j, j < 32 → SC[3 + j]? = some (.int .u8 (z j))
  c35 : SC[35]? = some (.bool own)
  c36 : SC[36]? = some wv

/-- A slice of words that lies in memory. -/
def WordsFrom (w : World) (A : Option Addr) (c : Nat) (ws : List Int) : Prop :=
  (A = none ∧ c = 0 ∧ ws = []) ∨ ∃ ad, A = some ad ∧ (0 < ws.length → ad.block < w.heap.size) ∧ ∀ j x, ws[j]? = some x → w.cell? (ad.add j) = some (.int .u64 x)
theorem WordsFrom.below {w w' : World} {A : Option Addr} {c : Nat} {ws : List Int} (h : WordsFrom w A c ws) (hb : Below w.heap.size w w') : WordsFrom w' A c ws := by
  rcases h with h | ⟨ad, rfl, hl, hc⟩
  · exact .inl h
  · exact .inr ⟨ad, rfl, fun h0 => Nat.lt_of_lt_of_le (hl h0) hb.size, fun j x hx => (hb.cell (p := ad.add j) (by have hpos : 0 < ws.length := by { have := (List.getElem?_eq_some_iff.1 hx).1; omega }; unfold Addr.add; split <;> exact hl hpos)).trans (hc j x hx)⟩
theorem copied_any (A : Option Addr) (c : Nat) (ws : List Int) (w : World) (h : WordsFrom w A c ws) (hl : ws.length ≤ 16777216) : Calls Try.prog 25 #[.slice A ws.length c] w (Copied ws w) := by
  rcases h with ⟨rfl, rfl, rfl⟩ | ⟨ad, rfl, had, hc⟩
  · exact copied_none w
  · exact copied_some ad c ws w hc hl had

/-- A player with a source of package impl, as it lies in memory: its own block, the generator's, the source's, the Rand's, the words'. -/
structure OwnAt (T t : TypeId) (cs : Array Value) (p G O R Wd : Nat) (arr : Array Value) (v : Value) (ws : List Int) (w : World) : Prop where
  p : Blk w p 67 #[.iface T (.pointer (some ⟨G, 0, none⟩)), .iface 74 (.pointer (some ⟨O, 0, none⟩)), .pointer (some ⟨R, 0, none⟩)]
  g : Blk w G t cs
  o : Blk w O 77 #[v, .iface T (.pointer (some ⟨G, 0, none⟩))]
  r : Blk w R 131 #[.iface 74 (.pointer (some ⟨O, 0, none⟩))]
  wi : WordsIn Wd arr v ws
  wd : 0 < ws.length → Blk w Wd 22 arr

/-- What started leaves. -/
def StartedOwn (T t : TypeId) (cs : Array Value) (ws : List Int) (w : World) (e : Ending) (w' : World) : Prop :=
  ∃ p G O R Wd arr v, e = .returned (.pointer (some ⟨p, 0, none⟩)) ∧ OwnAt T t cs p G O R Wd arr v ws w' ∧ Below w.heap.size w w' ∧ w.heap.size ≤ p ∧ w.heap.size ≤ G ∧ w.heap.size ≤ O ∧ w.heap.size ≤ R ∧ (0 < ws.length → w.heap.size ≤ Wd)

/-- A row of the call's own, as words in a block. -/
theorem words_of_own {w : World} {base : Nat} {v : Value} {ws : List Int} (h : w.ownsRow base 22 1 v ws.length (ws.map (Value.int .u64))) :
    ∃ Wd arr, WordsIn Wd arr v ws ∧ (0 < ws.length → Blk w Wd 22 arr ∧ base ≤ Wd) := by
  rcases h.2 with ⟨rfl, hn⟩ | ⟨g, cap, cur, rfl, hg, hh, hnc, hcm, hsz, htk⟩
  · refine ⟨0, #[], ⟨none, 0, by rw [hn], by omega, by omega, fun h0 => by omega⟩, fun h0 => by omega⟩
  · refine ⟨g, cur, ⟨_, _, rfl, hnc, hcm, fun _ => ⟨0, rfl, fun j x hx => ?_⟩⟩, fun _ => ⟨hh, hg⟩⟩
    have hj : j < ws.length := (List.getElem?_eq_some_iff.1 hx).1
    have h2 : (cur.toList.take (ws.length * 1))[j]? = some (.int .u64 x) := by rw [htk, List.getElem?_map, hx]; rfl
    rw [List.getElem?_take, if_pos (by omega)] at h2
    rw [Nat.zero_add]
    simpa using h2

/-- The cells of a key. -/
def keyCells (z : Nat → Int) : List Value := (List.range 32).map fun j => Value.int .u8 (z j)
theorem keyCells_length (z : Nat → Int) : (keyCells z).length = 32 := by simp [keyCells]
theorem keyCells_at (z : Nat → Int) (j : Nat) (hj : j < 32) : (keyCells z)[j]? = some (.int .u8 (z j)) := by
  unfold keyCells
  rw [List.getElem?_map, List.getElem?_range hj]
  rfl

/-- The end of started: the source's block, the player's fields, the new Rand. -/
theorem own_done {w W w1 : World} {T t : TypeId} {cs : Array Value} {ws : List Int} {A1 : Option Addr} {c1 P G : Nat}
    (hP : Blk W P 67 #[.iface T (.pointer (some ⟨G, 0, none⟩)), .iface T (.pointer (some ⟨G, 0, none⟩)), .pointer none]) (hG : Blk W G t cs) (ht : t ≠ 67) (hbel : Below w.heap.size w W) (hPl : w.heap.size ≤ P) (hGl : w.heap.size ≤ G)
    (hbelow : Below W.heap.size W w1) (hown : w1.ownsRow W.heap.size 22 1 (.slice A1 ws.length c1) ws.length (ws.map (Value.int .u64))) (W2 : World)
    (hW2 : W2 = (w1.setCell ⟨P, 1, none⟩ (.iface 74 (.pointer (some ⟨w1.heap.size, 0, none⟩)))).alloc (.cells #[.slice A1 ws.length c1, .iface T (.pointer (some ⟨G, 0, none⟩))] 77)) :
    Blk W2 P 67 #[.iface T (.pointer (some ⟨G, 0, none⟩)), .iface 74 (.pointer (some ⟨w1.heap.size, 0, none⟩)), .pointer none] ∧
    StartedOwn T t cs ws w (.returned (.pointer (some ⟨P, 0, none⟩))) ((W2.setCell ⟨P, 2, none⟩ (.pointer (some ⟨W2.heap.size, 0, none⟩))).alloc (.cells #[.iface 74 (.pointer (some ⟨w1.heap.size, 0, none⟩))] 131)) := by
  have hP1 := hP.below hbelow hP.lt
  have hG1 := hG.below hbelow hG.lt
  have hGP : G ≠ P := hG.ne_ hP ht
  have hPlt := hP1.lt
  have hGlt := hG1.lt
  obtain ⟨Wd, arr, hwi, hwd⟩ := words_of_own hown
  have hPW : P < W.heap.size := hP.lt
  have hGW : G < W.heap.size := hG.lt
  have b1 : Blk W2 P 67 #[.iface T (.pointer (some ⟨G, 0, none⟩)), .iface 74 (.pointer (some ⟨w1.heap.size, 0, none⟩)), .pointer none] := by
    subst hW2; exact (hP1.set_ 1 _).alloc _
  have b2 : Blk W2 G t cs := by subst hW2; exact (hG1.far (p := ⟨P, 1, none⟩) hGP _).alloc _
  have b3 : Blk W2 w1.heap.size 77 #[.slice A1 ws.length c1, .iface T (.pointer (some ⟨G, 0, none⟩))] := by
    subst hW2
    have h := Blk.new (w1.setCell ⟨P, 1, none⟩ (.iface 74 (.pointer (some ⟨w1.heap.size, 0, none⟩)))) 77 #[.slice A1 ws.length c1, .iface T (.pointer (some ⟨G, 0, none⟩))]
    rw [World.size_setCell] at h
    exact h
  have b4 : 0 < ws.length → Blk W2 Wd 22 arr := fun h0 => by
    subst hW2
    have hne : Wd ≠ P := by have := (hwd h0).2; omega
    exact ((hwd h0).1.far (p := ⟨P, 1, none⟩) hne _).alloc _
  have hb2 : Below w.heap.size w W2 := by
    subst hW2
    exact ((hbel.trans (hbelow.mono hbel.size)).setCell (p := ⟨P, 1, none⟩) hPl _).alloc (by simp [World.size_setCell]; have := hbelow.size; omega) _
  have hs2 : w1.heap.size < W2.heap.size := b3.lt
  clear hW2
  refine ⟨b1, P, G, w1.heap.size, W2.heap.size, Wd, arr, _, rfl, ⟨?_, ?_, ?_, ?_, hwi, ?_⟩, ?_, hPl, hGl, ?_, ?_, ?_⟩
  · exact (b1.set_ 2 _).alloc _
  · exact (b2.far (p := ⟨P, 2, none⟩) hGP _).alloc _
  · exact (b3.far (p := ⟨P, 2, none⟩) (by simp; omega) _).alloc _
  · have h := Blk.new (W2.setCell ⟨P, 2, none⟩ (.pointer (some ⟨W2.heap.size, 0, none⟩))) 131 #[.iface 74 (.pointer (some ⟨w1.heap.size, 0, none⟩))]
    rw [World.size_setCell] at h
    exact h
  · exact fun h0 => ((b4 h0).far (p := ⟨P, 2, none⟩) (by have := (hwd h0).2; simp; omega) _).alloc _
  · exact (hb2.setCell (p := ⟨P, 2, none⟩) hPl _).alloc (by simp [World.size_setCell]; exact hb2.size) _
  · have := hbelow.size; have := hbel.size; omega
  · exact hb2.size
  · exact fun h0 => by have := (hwd h0).2; have := hbel.size; omega

set_option maxHeartbeats 1000000 in
theorem started_pcg (SC : Array Value) (one two kind : Int) (z : Nat → Int) (A : Option Addr) (c : Nat) (ws : List Int) (hs : StartIs SC one two kind z true (.slice A ws.length c)) (w : World) (hw : WordsFrom w A c ws) (hl : ws.length ≤ 16777216)
    (h1 : (kind == 1) = false) (h2 : (kind == 2) = false) :
    Calls Try.prog 16 #[.agg SC] w (StartedOwn 68 70 #[.int .u64 one, .int .u64 two] ws w) := by
  have k0 := hs.c0
  have k1 := hs.c1
  have k2 := hs.c2
  have k35 := hs.c35
  have k36 := hs.c36
  have Hw := hide hw
  clear hs hw
  go_enter Try.func16, Try.ntmps16
  go_wp2_with fail
  go_call (newPCG_any one two _) as e w' ⟨rfl, rfl⟩
  go_wp2_with fail
  have hbel : Below w.heap.size w (((w.alloc (.cells SC 26)).alloc (.cells #[.iface 68 (.pointer (some ⟨w.heap.size + 1 + 1, 0, none⟩)), .iface 68 (.pointer (some ⟨w.heap.size + 1 + 1, 0, none⟩)), .pointer none] 67)).alloc (.cells #[.int .u64 one, .int .u64 two] 70)) := (((Below.refl _ w).alloc (Nat.le_refl _) _).alloc (by simp) _).alloc (by simp; omega) _
  have hB : Blk (((w.alloc (.cells SC 26)).alloc (.cells #[.iface 68 (.pointer (some ⟨w.heap.size + 1 + 1, 0, none⟩)), .iface 68 (.pointer (some ⟨w.heap.size + 1 + 1, 0, none⟩)), .pointer none] 67)).alloc (.cells #[.int .u64 one, .int .u64 two] 70)) w.heap.size 26 SC := ((Blk.new w 26 SC).alloc _).alloc _
  have hP : Blk (((w.alloc (.cells SC 26)).alloc (.cells #[.iface 68 (.pointer (some ⟨w.heap.size + 1 + 1, 0, none⟩)), .iface 68 (.pointer (some ⟨w.heap.size + 1 + 1, 0, none⟩)), .pointer none] 67)).alloc (.cells #[.int .u64 one, .int .u64 two] 70)) (w.heap.size + 1) 67 #[.iface 68 (.pointer (some ⟨w.heap.size + 1 + 1, 0, none⟩)), .iface 68 (.pointer (some ⟨w.heap.size + 1 + 1, 0, none⟩)), .pointer none] := by
    have h := Blk.new (w.alloc (.cells SC 26)) 67 #[.iface 68 (.pointer (some ⟨w.heap.size + 1 + 1, 0, none⟩)), .iface 68 (.pointer (some ⟨w.heap.size + 1 + 1, 0, none⟩)), .pointer none]
    rw [World.size_alloc] at h
    exact h.alloc _
  have hG : Blk (((w.alloc (.cells SC 26)).alloc (.cells #[.iface 68 (.pointer (some ⟨w.heap.size + 1 + 1, 0, none⟩)), .iface 68 (.pointer (some ⟨w.heap.size + 1 + 1, 0, none⟩)), .pointer none] 67)).alloc (.cells #[.int .u64 one, .int .u64 two] 70)) (w.heap.size + 1 + 1) 70 #[.int .u64 one, .int .u64 two] := by
    have h := Blk.new ((w.alloc (.cells SC 26)).alloc (.cells #[.iface 68 (.pointer (some ⟨w.heap.size + 1 + 1, 0, none⟩)), .iface 68 (.pointer (some ⟨w.heap.size + 1 + 1, 0, none⟩)), .pointer none] 67)) 70 #[.int .u64 one, .int .u64 two]
    rw [World.size_alloc, World.size_alloc] at h
    exact h
  generalize ((w.alloc (.cells SC 26)).alloc (.cells #[.iface 68 (.pointer (some ⟨w.heap.size + 1 + 1, 0, none⟩)), .iface 68 (.pointer (some ⟨w.heap.size + 1 + 1, 0, none⟩)), .pointer none] 67)).alloc (.cells #[.int .u64 one, .int .u64 two] 70) = W at hbel hB hP hG ⊢
  have hGl : w.heap.size ≤ w.heap.size + 1 + 1 := by omega
  generalize w.heap.size + 1 + 1 = G at hP hG hGl ⊢
  have hlt := hP.lt
  have s1 : W.cell? ⟨w.heap.size, 36, none⟩ = some (.slice A ws.length c) := (hB.cell 36).trans k36
  have s2 : W.cell? ⟨w.heap.size + 1, 0, none⟩ = some (.iface 68 (.pointer (some ⟨G, 0, none⟩))) := hP.cell 0
  have Hb := hide hB
  have Hp := hide hP
  have Hg := hide hG
  have Hbel := hide hbel
  clear hB hP hG hbel k0 k1 k2 k35 h1 h2
  go_region_held3 (fun w' => w'.cell? ⟨w.heap.size, 36, none⟩ = some (.slice A ws.length c) ∧ w'.cell? ⟨w.heap.size + 1, 0, none⟩ = some (.iface 68 (.pointer (some ⟨G, 0, none⟩)))) (first | go_keep | (exact ⟨by assumption, by assumption⟩) | (exact ⟨u1 _ _, u2 _ _⟩)) (first
    | (go_at_call 25; refine (copied_any A c ws W.drew (Hw.out.below Hbel.out.drew) hl).mono ?_; rintro e w1 ⟨A1, c1, rfl, hown, hbelow⟩; have t1 : w1.cell? ⟨w.heap.size, 36, none⟩ = some (.slice A ws.length c) := (hbelow.cell (p := ⟨w.heap.size, 36, none⟩) Hb.out.lt).trans s1; have t2 : w1.cell? ⟨w.heap.size + 1, 0, none⟩ = some (.iface 68 (.pointer (some ⟨G, 0, none⟩))) := (hbelow.cell (p := ⟨w.heap.size + 1, 0, none⟩) Hp.out.lt).trans s2; have hsz1 : w.heap.size + 1 < w1.heap.size := Nat.lt_of_lt_of_le hlt hbelow.size; have n1 : ¬ w.heap.size = w1.heap.size := (by omega); have n2 : ¬ w.heap.size + 1 = w1.heap.size := (by omega); have t3 : w1.cell? ⟨w.heap.size + 1, 1, none⟩ = some (.iface 68 (.pointer (some ⟨G, 0, none⟩))) := (hbelow.cell (p := ⟨w.heap.size + 1, 1, none⟩) Hp.out.lt).trans (Hp.out.cell 1); have t4 : w1.frozen? ⟨w.heap.size + 1, 1, none⟩ = false := (hbelow.frozen (p := ⟨w.heap.size + 1, 1, none⟩) Hp.out.lt).trans (Hp.out.frozen 1); have u1 : ∀ v o, ((w1.setCell ⟨w.heap.size + 1, 1, none⟩ v).alloc o).cell? ⟨w.heap.size, 36, none⟩ = some (.slice A ws.length c) := (fun v o => ((((Hb.out.drew.below hbelow Hb.out.lt).far (p := ⟨w.heap.size + 1, 1, none⟩) (by simp) v).alloc o).cell 36).trans k36); have u2 : ∀ v o, ((w1.setCell ⟨w.heap.size + 1, 1, none⟩ v).alloc o).cell? ⟨w.heap.size + 1, 0, none⟩ = some (.iface 68 (.pointer (some ⟨G, 0, none⟩))) := (fun v o => (((Hp.out.drew.below hbelow Hp.out.lt).set_ 1 v).alloc o).cell 0); have hno := hide hown; have Hbelow := hide hbelow; clear hown hbelow))
  clear u1 u2 t1 t2 t3 t4 n1 n2 s1 s2 k36
  obtain ⟨W2, hW2⟩ : ∃ W2, W2 = (w1.setCell ⟨w.heap.size + 1, 1, none⟩ (.iface 74 (.pointer (some ⟨w1.heap.size, 0, none⟩)))).alloc (.cells #[.slice A1 ws.length c1, .iface 68 (.pointer (some ⟨G, 0, none⟩))] 77) := ⟨_, rfl⟩
  have hfin := own_done (w := w) Hp.out.drew Hg.out.drew (by decide) Hbel.out.drew (by omega) hGl Hbelow.out hno.out W2 hW2
  rw [← hW2]
  have H1 := hide hfin.1
  have H2 := hide hfin.2
  clear hW2 hfin
  go_wp2_with fail
  go_call (anew_any (w.heap.size + 1) _ _ 74 _ W2 H1.out) as e w' ⟨rfl, rfl⟩
  go_wp2
  go_ret
  exact H2.out

set_option maxHeartbeats 1000000 in
theorem started_zero (SC : Array Value) (one two kind : Int) (z : Nat → Int) (A : Option Addr) (c : Nat) (ws : List Int) (hs : StartIs SC one two kind z true (.slice A ws.length c)) (w : World) (hw : WordsFrom w A c ws) (hl : ws.length ≤ 16777216)
    (h1 : (kind == 1) = true) :
    Calls Try.prog 16 #[.agg SC] w (StartedOwn 68 70 #[.int .u64 0, .int .u64 0] ws w) := by
  have k0 := hs.c0
  have k1 := hs.c1
  have k2 := hs.c2
  have k35 := hs.c35
  have k36 := hs.c36
  have Hw := hide hw
  clear hs hw
  go_enter Try.func16, Try.ntmps16
  go_wp2_with fail
  have hbel : Below w.heap.size w (((w.alloc (.cells SC 26)).alloc (.cells #[.iface 68 (.pointer (some ⟨w.heap.size + 1 + 1, 0, none⟩)), .iface 68 (.pointer (some ⟨w.heap.size + 1 + 1, 0, none⟩)), .pointer none] 67)).alloc (.cells #[.int .u64 0, .int .u64 0] 70)) := (((Below.refl _ w).alloc (Nat.le_refl _) _).alloc (by simp) _).alloc (by simp; omega) _
  have hB : Blk (((w.alloc (.cells SC 26)).alloc (.cells #[.iface 68 (.pointer (some ⟨w.heap.size + 1 + 1, 0, none⟩)), .iface 68 (.pointer (some ⟨w.heap.size + 1 + 1, 0, none⟩)), .pointer none] 67)).alloc (.cells #[.int .u64 0, .int .u64 0] 70)) w.heap.size 26 SC := ((Blk.new w 26 SC).alloc _).alloc _
  have hP : Blk (((w.alloc (.cells SC 26)).alloc (.cells #[.iface 68 (.pointer (some ⟨w.heap.size + 1 + 1, 0, none⟩)), .iface 68 (.pointer (some ⟨w.heap.size + 1 + 1, 0, none⟩)), .pointer none] 67)).alloc (.cells #[.int .u64 0, .int .u64 0] 70)) (w.heap.size + 1) 67 #[.iface 68 (.pointer (some ⟨w.heap.size + 1 + 1, 0, none⟩)), .iface 68 (.pointer (some ⟨w.heap.size + 1 + 1, 0, none⟩)), .pointer none] := by
    have h := Blk.new (w.alloc (.cells SC 26)) 67 #[.iface 68 (.pointer (some ⟨w.heap.size + 1 + 1, 0, none⟩)), .iface 68 (.pointer (some ⟨w.heap.size + 1 + 1, 0, none⟩)), .pointer none]
    rw [World.size_alloc] at h
    exact h.alloc _
  have hG : Blk (((w.alloc (.cells SC 26)).alloc (.cells #[.iface 68 (.pointer (some ⟨w.heap.size + 1 + 1, 0, none⟩)), .iface 68 (.pointer (some ⟨w.heap.size + 1 + 1, 0, none⟩)), .pointer none] 67)).alloc (.cells #[.int .u64 0, .int .u64 0] 70)) (w.heap.size + 1 + 1) 70 #[.int .u64 0, .int .u64 0] := by
    have h := Blk.new ((w.alloc (.cells SC 26)).alloc (.cells #[.iface 68 (.pointer (some ⟨w.heap.size + 1 + 1, 0, none⟩)), .iface 68 (.pointer (some ⟨w.heap.size + 1 + 1, 0, none⟩)), .pointer none] 67)) 70 #[.int .u64 0, .int .u64 0]
    rw [World.size_alloc, World.size_alloc] at h
    exact h
  generalize ((w.alloc (.cells SC 26)).alloc (.cells #[.iface 68 (.pointer (some ⟨w.heap.size + 1 + 1, 0, none⟩)), .iface 68 (.pointer (some ⟨w.heap.size + 1 + 1, 0, none⟩)), .pointer none] 67)).alloc (.cells #[.int .u64 0, .int .u64 0] 70) = W at hbel hB hP hG ⊢
  have hGl : w.heap.size ≤ w.heap.size + 1 + 1 := by omega
  generalize w.heap.size + 1 + 1 = G at hP hG hGl ⊢
  have hlt := hP.lt
  have s1 : W.cell? ⟨w.heap.size, 36, none⟩ = some (.slice A ws.length c) := (hB.cell 36).trans k36
  have s2 : W.cell? ⟨w.heap.size + 1, 0, none⟩ = some (.iface 68 (.pointer (some ⟨G, 0, none⟩))) := hP.cell 0
  have Hb := hide hB
  have Hp := hide hP
  have Hg := hide hG
  have Hbel := hide hbel
  clear hB hP hG hbel k0 k1 k2 k35 h1
  go_region_held3 (fun w' => w'.cell? ⟨w.heap.size, 36, none⟩ = some (.slice A ws.length c) ∧ w'.cell? ⟨w.heap.size + 1, 0, none⟩ = some (.iface 68 (.pointer (some ⟨G, 0, none⟩)))) (first | go_keep | (exact ⟨by assumption, by assumption⟩) | (exact ⟨u1 _ _, u2 _ _⟩)) (first
    | (go_at_call 25; refine (copied_any A c ws W.drew (Hw.out.below Hbel.out.drew) hl).mono ?_; rintro e w1 ⟨A1, c1, rfl, hown, hbelow⟩; have t1 : w1.cell? ⟨w.heap.size, 36, none⟩ = some (.slice A ws.length c) := (hbelow.cell (p := ⟨w.heap.size, 36, none⟩) Hb.out.lt).trans s1; have t2 : w1.cell? ⟨w.heap.size + 1, 0, none⟩ = some (.iface 68 (.pointer (some ⟨G, 0, none⟩))) := (hbelow.cell (p := ⟨w.heap.size + 1, 0, none⟩) Hp.out.lt).trans s2; have hsz1 : w.heap.size + 1 < w1.heap.size := Nat.lt_of_lt_of_le hlt hbelow.size; have n1 : ¬ w.heap.size = w1.heap.size := (by omega); have n2 : ¬ w.heap.size + 1 = w1.heap.size := (by omega); have t3 : w1.cell? ⟨w.heap.size + 1, 1, none⟩ = some (.iface 68 (.pointer (some ⟨G, 0, none⟩))) := (hbelow.cell (p := ⟨w.heap.size + 1, 1, none⟩) Hp.out.lt).trans (Hp.out.cell 1); have t4 : w1.frozen? ⟨w.heap.size + 1, 1, none⟩ = false := (hbelow.frozen (p := ⟨w.heap.size + 1, 1, none⟩) Hp.out.lt).trans (Hp.out.frozen 1); have u1 : ∀ v o, ((w1.setCell ⟨w.heap.size + 1, 1, none⟩ v).alloc o).cell? ⟨w.heap.size, 36, none⟩ = some (.slice A ws.length c) := (fun v o => ((((Hb.out.drew.below hbelow Hb.out.lt).far (p := ⟨w.heap.size + 1, 1, none⟩) (by simp) v).alloc o).cell 36).trans k36); have u2 : ∀ v o, ((w1.setCell ⟨w.heap.size + 1, 1, none⟩ v).alloc o).cell? ⟨w.heap.size + 1, 0, none⟩ = some (.iface 68 (.pointer (some ⟨G, 0, none⟩))) := (fun v o => (((Hp.out.drew.below hbelow Hp.out.lt).set_ 1 v).alloc o).cell 0); have hno := hide hown; have Hbelow := hide hbelow; clear hown hbelow))
  clear u1 u2 t1 t2 t3 t4 n1 n2 s1 s2 k36
  obtain ⟨W2, hW2⟩ : ∃ W2, W2 = (w1.setCell ⟨w.heap.size + 1, 1, none⟩ (.iface 74 (.pointer (some ⟨w1.heap.size, 0, none⟩)))).alloc (.cells #[.slice A1 ws.length c1, .iface 68 (.pointer (some ⟨G, 0, none⟩))] 77) := ⟨_, rfl⟩
  have hfin := own_done (w := w) Hp.out.drew Hg.out.drew (by decide) Hbel.out.drew (by omega) hGl Hbelow.out hno.out W2 hW2
  rw [← hW2]
  have H1 := hide hfin.1
  have H2 := hide hfin.2
  clear hW2 hfin
  go_wp2_with fail
  go_call (anew_any (w.heap.size + 1) _ _ 74 _ W2 H1.out) as e w' ⟨rfl, rfl⟩
  go_wp2
  go_ret
  exact H2.out

set_option maxHeartbeats 1000000 in
theorem started_cha (SC : Array Value) (one two kind : Int) (z : Nat → Int) (A : Option Addr) (c : Nat) (ws : List Int) (hs : StartIs SC one two kind z true (.slice A ws.length c)) (w : World) (hw : WordsFrom w A c ws) (hl : ws.length ≤ 16777216)
    (h1 : (kind == 1) = false) (h2 : (kind == 2) = true) :
    Calls Try.prog 16 #[.agg SC] w (StartedOwn 71 96 (chaNew z) ws w) := by
  have k0 := hs.c0
  have k1 := hs.c1
  have k2 := hs.c2
  have k35 := hs.c35
  have k36 := hs.c36
  have Hw := hide hw
  have Hrg : Hid (∀ o, ((w.alloc (.cells SC 26)).alloc o).rangeAt w.heap.size 3 (keyCells z)) := fun o j v hv => by
    have hj : j < 32 := by have := (List.getElem?_eq_some_iff.1 hv).1; rw [keyCells_length] at this; exact this
    rw [(((Blk.new w 26 SC).alloc o).cell (3 + j)), hs.key j hj, ← keyCells_at z j hj]
    exact hv
  have hsz23 : (Try.prog.info? 23).map (·.size) = some (keyCells z).length := by rw [size23, keyCells_length]
  clear hs hw
  go_enter Try.func16, Try.ntmps16
  go_wp2_with (refine wpList_load_mid rfl 23 (.tmp 27) rfl w.heap.size 3 rfl (keyCells z) _ (Hrg.out _) Try.underlying23 rfl hsz23 ?_)
  refine (newCha_any (keyCells z).toArray z (by rw [List.size_toArray, keyCells_length]) (fun j hj => by rw [List.getElem?_toArray, keyCells_at z j hj]) _).mono ?_
  rintro e w2 ⟨rfl, hC, hbC⟩
  have hP0 : Blk w2 (w.heap.size + 1) 67 #[.nilIface, .nilIface, .pointer none] := by
    have h := Blk.new (w.alloc (.cells SC 26)) 67 #[.nilIface, .nilIface, .pointer none]
    rw [World.size_alloc] at h
    exact h.below hbC (by simp)
  have hB0 : Blk w2 w.heap.size 26 SC := ((Blk.new w 26 SC).alloc (.cells #[.nilIface, .nilIface, .pointer none] 67)).below hbC (by simp; omega)
  have hbelw : Below w.heap.size w w2 := (((Below.refl _ w).alloc (Nat.le_refl _) (.cells SC 26)).alloc (by simp) (.cells #[.nilIface, .nilIface, .pointer none] 67)).trans (hbC.mono (by simp; omega))
  simp only [World.size_alloc] at hC
  obtain ⟨G, hGe⟩ : ∃ G, G = w.heap.size + 1 + 1 + 1 := ⟨_, rfl⟩
  have hGl : w.heap.size ≤ G := by omega
  have hGP : G ≠ w.heap.size + 1 := by omega
  rw [← hGe] at hC
  have HC := hide hC
  have HP0 := hide hP0
  have HB0 := hide hB0
  have Hbelw := hide hbelw
  have p0 : w2.cell? ⟨w.heap.size + 1, 0, none⟩ = some .nilIface := hP0.cell 0
  have p1 : w2.cell? ⟨w.heap.size + 1, 1, none⟩ = some .nilIface := hP0.cell 1
  have pf0 := hP0.frozen 0
  have pf1 := hP0.frozen 1
  have b35 : w2.cell? ⟨w.heap.size, 35, none⟩ = some (.bool true) := (hB0.cell 35).trans k35
  simp only [World.size_alloc]
  rw [← hGe]
  clear hC hP0 hB0 hbC hbelw hGe k0 k1 k2 Hrg hsz23
  go_wp2_with fail
  have hbel : Below w.heap.size w ((w2.setCell ⟨w.heap.size + 1, 0, none⟩ (.iface 71 (.pointer (some ⟨G, 0, none⟩)))).setCell ⟨w.heap.size + 1, 1, none⟩ (.iface 71 (.pointer (some ⟨G, 0, none⟩)))) := (Hbelw.out.setCell (p := ⟨w.heap.size + 1, 0, none⟩) (by simp) _).setCell (p := ⟨w.heap.size + 1, 1, none⟩) (by simp) _
  have hB : Blk ((w2.setCell ⟨w.heap.size + 1, 0, none⟩ (.iface 71 (.pointer (some ⟨G, 0, none⟩)))).setCell ⟨w.heap.size + 1, 1, none⟩ (.iface 71 (.pointer (some ⟨G, 0, none⟩)))) w.heap.size 26 SC := (HB0.out.far (p := ⟨w.heap.size + 1, 0, none⟩) (by simp) _).far (p := ⟨w.heap.size + 1, 1, none⟩) (by simp) _
  have hP : Blk ((w2.setCell ⟨w.heap.size + 1, 0, none⟩ (.iface 71 (.pointer (some ⟨G, 0, none⟩)))).setCell ⟨w.heap.size + 1, 1, none⟩ (.iface 71 (.pointer (some ⟨G, 0, none⟩)))) (w.heap.size + 1) 67 #[.iface 71 (.pointer (some ⟨G, 0, none⟩)), .iface 71 (.pointer (some ⟨G, 0, none⟩)), .pointer none] := (HP0.out.set_ 0 _).set_ 1 _
  have hG : Blk ((w2.setCell ⟨w.heap.size + 1, 0, none⟩ (.iface 71 (.pointer (some ⟨G, 0, none⟩)))).setCell ⟨w.heap.size + 1, 1, none⟩ (.iface 71 (.pointer (some ⟨G, 0, none⟩)))) G 96 (chaNew z) := (HC.out.far (p := ⟨w.heap.size + 1, 0, none⟩) hGP _).far (p := ⟨w.heap.size + 1, 1, none⟩) hGP _
  generalize (w2.setCell ⟨w.heap.size + 1, 0, none⟩ (.iface 71 (.pointer (some ⟨G, 0, none⟩)))).setCell ⟨w.heap.size + 1, 1, none⟩ (.iface 71 (.pointer (some ⟨G, 0, none⟩))) = W at hbel hB hP hG ⊢
  clear p0 p1 pf0 pf1 b35 HC HP0 HB0 Hbelw hGP
  have hlt := hP.lt
  have s1 : W.cell? ⟨w.heap.size, 36, none⟩ = some (.slice A ws.length c) := (hB.cell 36).trans k36
  have s2 : W.cell? ⟨w.heap.size + 1, 0, none⟩ = some (.iface 71 (.pointer (some ⟨G, 0, none⟩))) := hP.cell 0
  have Hb := hide hB
  have Hp := hide hP
  have Hg := hide hG
  have Hbel := hide hbel
  clear hB hP hG hbel k35 h1 h2
  go_region_held3 (fun w' => w'.cell? ⟨w.heap.size, 36, none⟩ = some (.slice A ws.length c) ∧ w'.cell? ⟨w.heap.size + 1, 0, none⟩ = some (.iface 71 (.pointer (some ⟨G, 0, none⟩)))) (first | go_keep | (exact ⟨by assumption, by assumption⟩) | (exact ⟨u1 _ _, u2 _ _⟩)) (first
    | (go_at_call 25; refine (copied_any A c ws W.drew (Hw.out.below Hbel.out.drew) hl).mono ?_; rintro e w1 ⟨A1, c1, rfl, hown, hbelow⟩; have t1 : w1.cell? ⟨w.heap.size, 36, none⟩ = some (.slice A ws.length c) := (hbelow.cell (p := ⟨w.heap.size, 36, none⟩) Hb.out.lt).trans s1; have t2 : w1.cell? ⟨w.heap.size + 1, 0, none⟩ = some (.iface 71 (.pointer (some ⟨G, 0, none⟩))) := (hbelow.cell (p := ⟨w.heap.size + 1, 0, none⟩) Hp.out.lt).trans s2; have hsz1 : w.heap.size + 1 < w1.heap.size := Nat.lt_of_lt_of_le hlt hbelow.size; have n1 : ¬ w.heap.size = w1.heap.size := (by omega); have n2 : ¬ w.heap.size + 1 = w1.heap.size := (by omega); have t3 : w1.cell? ⟨w.heap.size + 1, 1, none⟩ = some (.iface 71 (.pointer (some ⟨G, 0, none⟩))) := (hbelow.cell (p := ⟨w.heap.size + 1, 1, none⟩) Hp.out.lt).trans (Hp.out.cell 1); have t4 : w1.frozen? ⟨w.heap.size + 1, 1, none⟩ = false := (hbelow.frozen (p := ⟨w.heap.size + 1, 1, none⟩) Hp.out.lt).trans (Hp.out.frozen 1); have u1 : ∀ v o, ((w1.setCell ⟨w.heap.size + 1, 1, none⟩ v).alloc o).cell? ⟨w.heap.size, 36, none⟩ = some (.slice A ws.length c) := (fun v o => ((((Hb.out.drew.below hbelow Hb.out.lt).far (p := ⟨w.heap.size + 1, 1, none⟩) (by simp) v).alloc o).cell 36).trans k36); have u2 : ∀ v o, ((w1.setCell ⟨w.heap.size + 1, 1, none⟩ v).alloc o).cell? ⟨w.heap.size + 1, 0, none⟩ = some (.iface 71 (.pointer (some ⟨G, 0, none⟩))) := (fun v o => (((Hp.out.drew.below hbelow Hp.out.lt).set_ 1 v).alloc o).cell 0); have hno := hide hown; have Hbelow := hide hbelow; clear hown hbelow))
  clear u1 u2 t1 t2 t3 t4 n1 n2 s1 s2 k36
  obtain ⟨W2, hW2⟩ : ∃ W2, W2 = (w1.setCell ⟨w.heap.size + 1, 1, none⟩ (.iface 74 (.pointer (some ⟨w1.heap.size, 0, none⟩)))).alloc (.cells #[.slice A1 ws.length c1, .iface 71 (.pointer (some ⟨G, 0, none⟩))] 77) := ⟨_, rfl⟩
  have hfin := own_done (w := w) Hp.out.drew Hg.out.drew (by decide) Hbel.out.drew (by omega) hGl Hbelow.out hno.out W2 hW2
  rw [← hW2]
  have H1 := hide hfin.1
  have H2 := hide hfin.2
  clear hW2 hfin
  go_wp2_with fail
  go_call (anew_any (w.heap.size + 1) _ _ 74 _ W2 H1.out) as e w' ⟨rfl, rfl⟩
  go_wp2
  go_ret
  exact H2.out

end Go.Proofs.Ytiofpkfcinfhiaa
