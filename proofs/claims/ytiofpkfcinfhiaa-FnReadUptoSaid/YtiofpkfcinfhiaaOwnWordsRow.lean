/-
  For every start of bulk at most 1048576 the law FnOwnWords returns true: over a source of package impl the Uint64s of a Rand are the words of the source, in order, and then the first word of the generator behind it.
  Its condition: what the argument holds is of bulk at most 1048576 (the statement's own).
-/
import Derived.Test.YtiofpkfcinfhiaaRows
import Derived.Test.YtiofpkfcinfhiaaOwnWords
import Derived.ProofKit
import Derived.OpenShut
import Derived.JoinedCond
import Derived.ChangeSame
namespace Go.Proofs.Ytiofpkfcinfhiaa
open Go.ChangeShapes Go.WideShapes Go.ChangeAt Go.RowKit

theorem own_ : ownKnob Try.prog.godebug = none := by kernel_rfl
theorem laidOut_ : laidOutB Try.prog = true := by kernel_rfl
theorem cells22 : Try.prog.cellsOf 22 = 1 := by kernel_rfl
theorem cells3 : Try.prog.cellsOf 3 = 1 := by kernel_rfl
theorem cells4 : Try.prog.cellsOf 4 = 1 := by kernel_rfl
theorem cells5 : Try.prog.cellsOf 5 = 1 := by kernel_rfl
theorem cells23 : Try.prog.cellsOf 23 = 32 := by kernel_rfl
theorem cells24 : Try.prog.cellsOf 24 = 1 := by kernel_rfl
theorem cells26 : Try.prog.cellsOf 26 = 37 := by kernel_rfl

section
variable {H : Type} {enc : TypeId × Value → H}

theorem bulk_lits (k : IntKind) (zs : List Int) : zs.length ≤ Rows.uptoBulkAll (lits (H := H) k zs) := by
  induction zs with
  | nil => simp [lits, Rows.uptoBulkAll]
  | cons z zs ih =>
    simp only [lits, List.map_cons, Rows.uptoBulkAll, Rows.uptoBulk, List.length_cons] at ih ⊢
    omega

theorem bulk_part {d : DataW H} {l : List (DataW H)} (h : d ∈ l) : Rows.uptoBulk d ≤ Rows.uptoBulkAll l := by
  induction l with
  | nil => cases h
  | cons x r ih =>
    simp only [Rows.uptoBulkAll]
    cases List.mem_cons.1 h with
    | inl e => subst e; omega
    | inr e => have := ih e; omega

theorem one_at (l : List Value) (j : Nat) (v : Value) (h : (l.drop j).take 1 = [v]) : l[j]? = some v := by
  have := congrArg (·[0]?) h
  simpa [List.getElem?_take, List.getElem?_drop] using this

/-- A start that was read, opened to its cells. -/
theorem open_start {W : World} {base : Nat} {spare : Nat → Bool} {held : Bool} {SC : Array Value} {d : DataW H} {p : List MemPlace} (hsz : SC.size = 37) (hsp : ∀ b, spare b = true) (hlt : ∀ x ∈ p, x.block < W.heap.size) (h : DataW.Trod enc Try.prog W base spare held 26 (.agg SC) d p) :
    ∃ (one two : Nat) (kind : Int) (z : Nat → Int) (own : Bool) (A : Option Addr) (c : Nat) (ws : List Int), StartIs SC one two kind z own (.slice A ws.length c) ∧ two < 18446744073709551616 ∧ WordsFrom W A c ws ∧ ws.length ≤ Rows.uptoBulk d := by
  obtain ⟨fuel, hf⟩ := h
  obtain ⟨xs, n, _, hx, hlen, hxl, hfld⟩ := DataW.trod_struct Try.underlying26 hf
  have f0 : DataW.trod enc Try.prog W base spare held n 22 ((SC.toList.drop 0).take (Try.prog.cellsOf 22)) = xs[0]? := hfld 0 _ rfl
  have f1 : DataW.trod enc Try.prog W base spare held n 22 ((SC.toList.drop 1).take (Try.prog.cellsOf 22)) = xs[1]? := hfld 1 _ rfl
  have f2 : DataW.trod enc Try.prog W base spare held n 3 ((SC.toList.drop 2).take (Try.prog.cellsOf 3)) = xs[2]? := hfld 2 _ rfl
  have f3 : DataW.trod enc Try.prog W base spare held n 23 ((SC.toList.drop 3).take (Try.prog.cellsOf 23)) = xs[3]? := hfld 3 _ rfl
  have f4 : DataW.trod enc Try.prog W base spare held n 4 ((SC.toList.drop 35).take (Try.prog.cellsOf 4)) = xs[4]? := hfld 4 _ rfl
  have f5 : DataW.trod enc Try.prog W base spare held n 24 ((SC.toList.drop 36).take (Try.prog.cellsOf 24)) = xs[5]? := hfld 5 _ rfl
  have g : ∀ j, j < 6 → ∃ y, xs[j]? = some y := fun j hj => ⟨_, List.getElem?_eq_getElem (by rw [hxl]; exact hj)⟩
  obtain ⟨y0, e0⟩ := g 0 (by omega)
  obtain ⟨y1, e1⟩ := g 1 (by omega)
  obtain ⟨y2, e2⟩ := g 2 (by omega)
  obtain ⟨y3, e3⟩ := g 3 (by omega)
  obtain ⟨y4, e4⟩ := g 4 (by omega)
  obtain ⟨y5, e5⟩ := g 5 (by omega)
  rw [e0] at f0
  rw [e1] at f1
  rw [e2] at f2
  rw [e3] at f3
  rw [e4] at f4
  rw [e5] at f5
  obtain ⟨a0, h0, _, w0⟩ := DataW.trod_int Try.underlying22 f0
  obtain ⟨a1, h1, _, w1⟩ := DataW.trod_int Try.underlying22 f1
  obtain ⟨a2, h2, _, _⟩ := DataW.trod_int Try.underlying3 f2
  obtain ⟨ks, m, _, hk, hkl, hkn, hke⟩ := DataW.trod_array Try.underlying23 f3
  obtain ⟨ow, h4, _⟩ := DataW.trod_bool Try.underlying4 f4
  have b0 : 0 ≤ a0 ∧ a0 ≤ 18446744073709551615 := by simpa [Lit.wf, IntKind.min, IntKind.max, IntKind.signed, IntKind.bits] using w0
  have b1 : 0 ≤ a1 ∧ a1 ≤ 18446744073709551615 := by simpa [Lit.wf, IntKind.min, IntKind.max, IntKind.signed, IntKind.bits] using w1
  obtain ⟨one, rfl⟩ := Int.eq_ofNat_of_zero_le b0.1
  obtain ⟨two, rfl⟩ := Int.eq_ofNat_of_zero_le b1.1
  have hkey : ∀ j, j < 32 → ∃ z, SC[3 + j]? = some (.int .u8 z) := fun j hj => by
    have := hke j hj
    rw [cells5] at this
    obtain ⟨y, ey⟩ : ∃ y, ks[j]? = some y := ⟨_, List.getElem?_eq_getElem (by rw [hkn]; exact hj)⟩
    rw [ey] at this
    obtain ⟨z, hz, _, _⟩ := DataW.trod_int Try.underlying5 this
    refine ⟨z, ?_⟩
    have hz' := one_at _ _ _ hz
    rw [Nat.mul_one] at hz'
    rw [List.getElem?_take, List.getElem?_drop] at hz'
    simp [cells23, hj] at hz'
    exact hz'
  have hz : ∃ z : Nat → Int, ∀ j, j < 32 → SC[3 + j]? = some (.int .u8 (z j)) :=
    ⟨fun j => if hj : j < 32 then Classical.choose (hkey j hj) else 0, fun j hj => by simp only [hj, dite_true]; exact Classical.choose_spec (hkey j hj)⟩
  obtain ⟨z, hz⟩ := hz
  have c0 : SC[0]? = some (.int .u64 (one : Int)) := by rw [cells22] at h0; simpa using one_at _ _ _ h0
  have c1 : SC[1]? = some (.int .u64 (two : Int)) := by rw [cells22] at h1; simpa using one_at _ _ _ h1
  have c2 : SC[2]? = some (.int .i64 a2) := by rw [cells3] at h2; simpa using one_at _ _ _ h2
  have c35 : SC[35]? = some (.bool ow) := by rw [cells4] at h4; simpa using one_at _ _ _ h4
  have hmem : y5 ∈ xs := List.mem_of_getElem? e5
  have hd : y5.1 ∈ xs.map (·.1) := List.mem_map_of_mem hmem
  have hd2 : Rows.uptoBulk y5.1 ≤ Rows.uptoBulk d := by
    have := bulk_part hd
    simp only [Prod.mk.injEq] at hx
    rw [hx.1]
    simp only [Rows.uptoBulk]
    omega
  have hpl : ∀ x ∈ y5.2, x.block < W.heap.size := fun x hxm => by
    refine hlt x ?_
    simp only [Prod.mk.injEq] at hx
    rw [hx.2]
    exact List.mem_flatMap.2 ⟨y5, hmem, hxm⟩
  rcases open_ints Try.underlying24 Try.underlying22 cells22 f5 with ⟨hcs, _⟩ | ⟨a, len, cap, zs, hcs, _, hl, _, hzl, hy, hcell, _⟩
  · have c36 : SC[36]? = some (.slice none 0 0) := by rw [cells24] at hcs; simpa using one_at _ _ _ hcs
    exact ⟨one, two, a2, z, ow, none, 0, [], ⟨hsz, c0, c1, c2, hz, c35, c36⟩, by omega, .inl ⟨rfl, rfl, rfl⟩, by simp⟩
  · have c36 : SC[36]? = some (.slice (some a) len cap) := by rw [cells24] at hcs; simpa using one_at _ _ _ hcs
    rw [hsp, if_pos rfl] at hzl
    have htl : (zs.take len).length = len := by rw [List.length_take]; omega
    refine ⟨one, two, a2, z, ow, some a, cap, zs.take len, ⟨hsz, c0, c1, c2, hz, c35, by rw [htl]; exact c36⟩, by omega, ?_, ?_⟩
    · refine .inr ⟨a, rfl, fun h0 => ?_, fun j x hjx => ?_⟩
      · have hm : MemPlace.cell a.block (a.off + 0) ∈ y5.2 := by
          rw [hy]
          exact List.mem_map.2 ⟨0, List.mem_range.2 (by omega), rfl⟩
        exact hpl _ hm
      · have hj : j < len := by have := (List.getElem?_eq_some_iff.1 hjx).1; omega
        rw [hcell j (by omega)]
        rw [List.getElem?_take, if_pos hj] at hjx
        simp [List.getD, hjx]
    · refine Nat.le_trans ?_ hd2
      rw [hy]
      simp only [Rows.uptoBulk]
      have := bulk_lits (H := H) .u64 (zs.take len)
      omega
end

section
variable {H : Type} {enc : TypeId × Value → H} {P : Program}
/-- The row's last step where all that was there before the call stands. -/
theorem post_below {f : Func} {s : ChangeSpec} {apart fresh handsOn again : Bool} {W W' : World} {args : Array Value} {v : Value} {ds gs : List (DataW H)} {before pa pv : List MemPlace}
    (hW : DataW.Whole enc P f.params.toList s.vars apart W args.toList ds gs before)
    (hres : ∀ (b : Nat) (sp : Nat → Bool) (hd : Bool), DataW.TrodAll enc P W' b sp hd f.resultTypes.toList (v.resultList f.resultTypes.size) (s.fn H (ds ++ gs)).results [])
    (hargs : ∀ sp : Nat → Bool, (∀ p ∈ before, sp p.block = true) → DataW.TrodAll enc P W' 0 sp true f.params.toList args.toList (s.fn H (ds ++ gs)).args pa)
    (hvars : ∀ sp : Nat → Bool, (∀ p ∈ before, sp p.block = true) → DataW.TrodVars enc P W' sp s.vars (s.fn H (ds ++ gs)).vars pv)
    (hps : before = pa ++ pv) (hb : Below W.heap.size W W')
    (hok : ∀ (j : Nat) (t : TypeId) (r : Value), f.resultTypes[j]? = some t → (v.resultList f.resultTypes.size)[j]? = some r → Value.okWide P W' .any 0 t r) :
    s.post enc P f apart fresh handsOn again W args v W' := by
  have hlt : ∀ p ∈ before, p.block < W.heap.size := fun p hp => hW.lt p hp
  have hold : ∀ p ∈ before, (fun b => decide (b < W.heap.size)) p.block = true := fun p hp => by simpa using hlt p hp
  refine ⟨ds, gs, before, [], pa, pv, hW, hres _ _ _, hargs _ hold, hvars _ hold, World.keptBut_mono (fun p hp => ⟨hp, ?_⟩) (hb.frame (· ∈ before)), fun _ => ?_⟩
  · rw [hps, List.mem_append] at hp
    exact Or.inr hp
  · obtain ⟨_, _, _, _, _, hz, hn⟩ := hW
    refine ⟨hok, _, _, ([] ++ pa) ++ pv, ⟨[] ++ pa, pv, trodAll_append (hargs _ (fun _ _ => rfl)) (hres _ _ _), hvars _ (fun _ _ => rfl), rfl, ?_, ?_⟩, ?_⟩
    · intro b off hp
      have hin : MemPlace.cell b off ∈ before := by rw [hps]; simpa using hp
      rw [hb.frozen (hlt _ hin)]
      exact hz b off hin
    · intro ha
      have := hn ha
      rw [hps] at this
      simpa using this
    · intro p hp _
      rw [hps]
      simpa using hp
end

theorem bound_of {H : Type} {l : List (DataW H)} (hk : Rows.uptoSmall H l = true) : Rows.uptoBulkAll l ≤ 1048576 := by
  unfold Rows.uptoSmall at hk
  exact of_decide_eq_true hk

namespace fnOwnWords
set_option linter.unusedVariables false

set_option maxRecDepth 100000 in
theorem contract (H : Type) (enc : TypeId × Value → H) (W : World) (base : Nat) (args : Array Value) (ds gs : List (DataW H)) (before : List MemPlace)
    (hval : ∀ (j : Nat) t v, Try.f3.params[j]? = some t → args[j]? = some v → Value.okWide Try.prog W .any base t v)
    (hW : DataW.Whole enc Try.prog Try.f3.params.toList Rows.fnOwnWordsSpec.vars false W args.toList ds gs before) (hk : Rows.uptoSmall H (ds ++ gs) = true) :
    Calls Try.prog 3 args W fun e W' => ∃ v, e = .returned v ∧ Rows.fnOwnWordsSpec.post enc Try.prog Try.f3 false true false false W args v W' := by
  have hW' := hW
  have hlt : ∀ p ∈ before, p.block < W.heap.size := fun p hp => hW.lt p hp
  obtain ⟨p, q, hA0, hV, rfl, hfz, hnd⟩ := hW
  have hA : DataW.TrodAll enc Try.prog W 0 (fun _ => true) true Try.f3.params.toList args.toList ds p := hA0
  rw [Try.params3] at hA hval
  obtain ⟨v0, vs0, d0, ds0, p0, q0, hargs, rfl, rfl, h0, r0⟩ := trodAll_cons hA
  obtain ⟨rfl, rfl, rfl⟩ := trodAll_nil r0
  obtain rfl : args = #[v0] := by cases args; simp_all
  obtain ⟨rfl, rfl⟩ := trodVars_none hV
  clear hA0
  simp only [List.append_nil] at hW' hlt hk
  obtain ⟨SC, rfl, hsz⟩ := okWide_struct Try.underlying26 (hval 0 26 v0 rfl rfl)
  rw [cells26] at hsz
  obtain ⟨one, two, kind, z, own, A, c, ws, hs, h2, hw, hbk⟩ := open_start hsz (fun _ => rfl) hlt h0
  have hb1 := bound_of hk
  simp only [Rows.uptoBulkAll] at hb1
  refine (ownWords_any SC one two kind z own A c ws hs h2 (by omega) W hw).mono fun e W' ⟨he, hg⟩ => ?_
  subst he
  exact ⟨_, rfl, post_below (pa := p0) (pv := []) hW' (fun _ _ _ => (trodAll_cons_mk (shut_bool Try.underlying4 _) trodAll_mk0))
    (fun sp hsp => by
      have h := trodAll_cons_mk (WideElems.Trod_stays laidOut_ (by kernel_rfl) (of_decide_eq_true (by kernel_rfl)) h0 (fun x hx => hg.same (hlt x hx)) (fun x hx => hsp x hx)) trodAll_mk0
      rw [List.append_nil] at h
      exact h) (fun _ _ => rfl) (by simp) hg (ok_one (by kernel_rfl) rfl (okWide_bool_mk Try.underlying4 _))⟩

set_option maxRecDepth 100000 in
theorem lifted (os : Os) (started : os.Started) (H : Type) (enc : TypeId × Value → H) (F : Stop.Interp) :
    ReturnsInHanded {} Try.checked os 3 .any ((Rows.OpenSpec.upto Rows.fnOwnWordsSpec).pre6 enc Try.prog Try.f3 Rows.fnOwnWordsUptoRow.domain false) (((Rows.OpenSpec.upto Rows.fnOwnWordsSpec).at F).post enc Try.prog Try.f3 false true false false) := by
  refine returnsInHanded_of_cond (C := Try.checked) (s := Rows.OpenSpec.upto Rows.fnOwnWordsSpec) (k := Rows.uptoSmall) rfl own_ started (by kernel_rfl) Try.func3
    (OpenSpec.witness (enc := enc) (C := Try.checked) (s := Rows.OpenSpec.upto Rows.fnOwnWordsSpec) (k := Rows.uptoSmall) rfl false ⟨#[], #[.agg #[.int .u64 0, .int .u64 0, .int .i64 0, .int .u8 0, .int .u8 0, .int .u8 0, .int .u8 0, .int .u8 0, .int .u8 0, .int .u8 0, .int .u8 0, .int .u8 0, .int .u8 0, .int .u8 0, .int .u8 0, .int .u8 0, .int .u8 0, .int .u8 0, .int .u8 0, .int .u8 0, .int .u8 0, .int .u8 0, .int .u8 0, .int .u8 0, .int .u8 0, .int .u8 0, .int .u8 0, .int .u8 0, .int .u8 0, .int .u8 0, .int .u8 0, .int .u8 0, .int .u8 0, .int .u8 0, .int .u8 0, .bool false, .slice none 0 0]], []⟩ 8 (by kernel_rfl) (by kernel_rfl) (by kernel_rfl)
      (x := ([.agg [.lit (.int .u64 0), .lit (.int .u64 0), .lit (.int .i64 0), .agg [.lit (.int .u8 0), .lit (.int .u8 0), .lit (.int .u8 0), .lit (.int .u8 0), .lit (.int .u8 0), .lit (.int .u8 0), .lit (.int .u8 0), .lit (.int .u8 0), .lit (.int .u8 0), .lit (.int .u8 0), .lit (.int .u8 0), .lit (.int .u8 0), .lit (.int .u8 0), .lit (.int .u8 0), .lit (.int .u8 0), .lit (.int .u8 0), .lit (.int .u8 0), .lit (.int .u8 0), .lit (.int .u8 0), .lit (.int .u8 0), .lit (.int .u8 0), .lit (.int .u8 0), .lit (.int .u8 0), .lit (.int .u8 0), .lit (.int .u8 0), .lit (.int .u8 0), .lit (.int .u8 0), .lit (.int .u8 0), .lit (.int .u8 0), .lit (.int .u8 0), .lit (.int .u8 0), .lit (.int .u8 0)], .lit (.bool false), .nil]], [], [])) (by kernel_rfl) rfl (by kernel_rfl)) ?_
  intro W base args ds gs before hval hW _ hk _
  exact contract H enc W base args ds gs before hval hW hk

theorem over : Rows.fnOwnWordsUptoRow.holds Try.pinned (Rows.OpenSpec.upto Rows.fnOwnWordsSpec) :=
  OpenClaim.holds_of_cond 3 Try.f3 rfl rfl rfl rfl rfl rfl rfl ⟨rfl, rfl, rfl, rfl, rfl⟩ rfl rfl rfl rfl rfl (by kernel_rfl) Try.func3 (by kernel_rfl)
    (of_decide_eq_true (by kernel_rfl)) (by unfold Func.isWrapper; first | (rw [if_pos (by decide +kernel)]; kernel_rfl) | (rw [if_neg (by decide +kernel)]; exact ⟨rfl, rfl⟩))
    (fun os started H enc _ F => lifted os started H enc F)

end fnOwnWords

theorem fnOwnWordsUpto_holds : Rows.FnOwnWordsUptoSaid := fnOwnWords.over

end Go.Proofs.Ytiofpkfcinfhiaa
