/-
  For every key and every list of sizes of bulk at most 1048576 the law FnRead returns true: two ChaCha8s of one key, asked in turn for as many bytes as the sizes say (modulo 4096), read exactly so many bytes each time, without an error, and the same bytes.
  Its condition: what the arguments hold is of bulk at most 1048576 (the statement's own).
-/
import Derived.Test.YtiofpkfcinfhiaaOwnWordsRow
import Derived.Test.YtiofpkfcinfhiaaFnRead
namespace Go.Proofs.Ytiofpkfcinfhiaa
open Go.ChangeShapes Go.WideShapes Go.ChangeAt Go.RowKit

theorem cells39 : Try.prog.cellsOf 39 = 1 := by kernel_rfl
theorem cells40 : Try.prog.cellsOf 40 = 1 := by kernel_rfl

set_option maxRecDepth 100000 in
theorem okWide_key {W : World} {r : Reach} {base : Nat} {v : Value} (h : Value.okWide Try.prog W r base 23 v) : ∃ cs, v = .agg cs ∧ cs.size = 32 := by
  simp only [Value.okWide, Try.underlying23] at h
  obtain ⟨cs, h1, h2, _⟩ := h
  exact ⟨cs, h1, by rw [h2, cells23]⟩

section
variable {H : Type} {enc : TypeId × Value → H}

/-- A key that was read, opened to its cells. -/
theorem open_key {W : World} {base : Nat} {spare : Nat → Bool} {held : Bool} {KC : Array Value} {d : DataW H} {p : List MemPlace} (hsz : KC.size = 32) (h : DataW.Trod enc Try.prog W base spare held 23 (.agg KC) d p) :
    ∃ z : Nat → Int, KC = keyRow z := by
  obtain ⟨fuel, hf⟩ := h
  obtain ⟨ks, m, _, hk, hkl, hkn, hke⟩ := DataW.trod_array Try.underlying23 hf
  have hkey : ∀ j, j < 32 → ∃ z, KC[j]? = some (.int .u8 z) := fun j hj => by
    have := hke j hj
    rw [cells5] at this
    obtain ⟨y, ey⟩ : ∃ y, ks[j]? = some y := ⟨_, List.getElem?_eq_getElem (by rw [hkn]; exact hj)⟩
    rw [ey] at this
    obtain ⟨z, hz, _, _⟩ := DataW.trod_int Try.underlying5 this
    refine ⟨z, ?_⟩
    have hz' := one_at _ _ _ hz
    rw [Nat.mul_one] at hz'
    simpa [Value.cells] using hz'
  have hz : ∃ z : Nat → Int, ∀ j, j < 32 → KC[j]? = some (.int .u8 (z j)) :=
    ⟨fun j => if hj : j < 32 then Classical.choose (hkey j hj) else 0, fun j hj => by simp only [hj, dite_true]; exact Classical.choose_spec (hkey j hj)⟩
  obtain ⟨z, hz⟩ := hz
  exact ⟨z, key_of hsz hz⟩

/-- Sizes that were read. -/
theorem open_sizes {W : World} {base : Nat} {spare : Nat → Bool} {held : Bool} {v : Value} {d : DataW H} {p : List MemPlace} (hv : ∃ a len cap, v = .slice a len cap) (hsp : ∀ b, spare b = true) (hlt : ∀ x ∈ p, x.block < W.heap.size) (h : DataW.Trod enc Try.prog W base spare held 39 v d p) :
    ∃ (A : Option Addr) (c : Nat) (zs : List Int), v = .slice A zs.length c ∧ (∀ x ∈ zs, 0 ≤ x ∧ x ≤ 18446744073709551615) ∧ WordsFrom W A c zs ∧ zs.length ≤ Rows.uptoBulk d := by
  obtain ⟨fuel, hf⟩ := h
  obtain ⟨a0, l0, k0, rfl⟩ := hv
  rcases open_ints Try.underlying39 Try.underlying40 cells40 hf with ⟨hcs, _⟩ | ⟨a, len, cap, zs, hcs, _, hl, _, hzl, hy, hcell, hwf⟩
  · have hcs' : Value.slice a0 l0 k0 = .slice none 0 0 := by simpa [Value.cells] using hcs
    rw [hcs']
    exact ⟨none, 0, [], rfl, by simp, .inl ⟨rfl, rfl, rfl⟩, by simp⟩
  · have hcs' : Value.slice a0 l0 k0 = .slice (some a) len cap := by simpa [Value.cells] using hcs
    rw [hcs']
    rw [hsp, if_pos rfl] at hzl
    have htl : (zs.take len).length = len := by rw [List.length_take]; omega
    simp only [Prod.mk.injEq] at hy
    refine ⟨some a, cap, zs.take len, by rw [htl], fun x hx => ?_, .inr ⟨a, rfl, fun h0 => ?_, fun j x hjx => ?_⟩, ?_⟩
    · have := hwf x (List.mem_of_mem_take hx)
      simpa [Lit.wf, IntKind.min, IntKind.max, IntKind.signed, IntKind.bits] using this
    · have hm : MemPlace.cell a.block (a.off + 0) ∈ p := by
        rw [hy.2]
        exact List.mem_map.2 ⟨0, List.mem_range.2 (by omega), rfl⟩
      exact hlt _ hm
    · have hj : j < len := by have := (List.getElem?_eq_some_iff.1 hjx).1; omega
      rw [hcell j (by omega)]
      rw [List.getElem?_take, if_pos hj] at hjx
      simp [List.getD, hjx]
    · rw [hy.1]
      simp only [Rows.uptoBulk]
      have := bulk_lits (H := H) .u64 (zs.take len)
      omega
end

namespace fnRead
set_option linter.unusedVariables false

set_option maxRecDepth 100000 in
theorem contract (H : Type) (enc : TypeId × Value → H) (W : World) (base : Nat) (args : Array Value) (ds gs : List (DataW H)) (before : List MemPlace)
    (hval : ∀ (j : Nat) t v, Try.f4.params[j]? = some t → args[j]? = some v → Value.okWide Try.prog W .any base t v)
    (hW : DataW.Whole enc Try.prog Try.f4.params.toList Rows.fnReadSpec.vars false W args.toList ds gs before) (hk : Rows.uptoSmall H (ds ++ gs) = true) :
    Calls Try.prog 4 args W fun e W' => ∃ v, e = .returned v ∧ Rows.fnReadSpec.post enc Try.prog Try.f4 false true false false W args v W' := by
  have hW' := hW
  have hlt : ∀ p ∈ before, p.block < W.heap.size := fun p hp => hW.lt p hp
  obtain ⟨p, q, hA0, hV, rfl, hfz, hnd⟩ := hW
  have hA : DataW.TrodAll enc Try.prog W 0 (fun _ => true) true Try.f4.params.toList args.toList ds p := hA0
  rw [Try.params4] at hA hval
  obtain ⟨v0, vs0, d0, ds0, p0, q0, hargs, rfl, rfl, h0, r0⟩ := trodAll_cons hA
  obtain ⟨v1, vs1, d1, ds1, p1, q1, rfl, rfl, rfl, h1, r1⟩ := trodAll_cons r0
  obtain ⟨rfl, rfl, rfl⟩ := trodAll_nil r1
  obtain rfl : args = #[v0, v1] := by cases args; simp_all
  obtain ⟨rfl, rfl⟩ := trodVars_none hV
  clear hA0
  simp only [List.append_nil] at hW' hlt hk
  obtain ⟨KC, rfl, hsz⟩ := okWide_key (hval 0 23 v0 rfl rfl)
  have hsl := okWide_slice Try.underlying39 (hval 1 39 v1 rfl rfl)
  obtain ⟨z, rfl⟩ := open_key hsz h0
  obtain ⟨A, c, zs, rfl, hzs, hw, hbk⟩ := open_sizes hsl (fun _ => rfl) (fun x hx => hlt x (by simp [hx])) h1
  have hb1 := bound_of hk
  simp only [Rows.uptoBulkAll] at hb1
  refine (fnRead_any z A c zs hzs (by omega) W hw).mono fun e W' ⟨he, hg⟩ => ?_
  subst he
  exact ⟨_, rfl, post_below (pa := p0 ++ p1) (pv := []) hW' (fun _ _ _ => (trodAll_cons_mk (shut_bool Try.underlying4 _) trodAll_mk0))
    (fun sp hsp => by
      have h := trodAll_cons_mk (WideElems.Trod_stays laidOut_ (by kernel_rfl) (of_decide_eq_true (by kernel_rfl)) h0 (fun x hx => hg.same (hlt x (by simp [hx]))) (fun x hx => hsp x (by simp [hx])))
        (trodAll_cons_mk (WideElems.Trod_stays laidOut_ (by kernel_rfl) (of_decide_eq_true (by kernel_rfl)) h1 (fun x hx => hg.same (hlt x (by simp [hx]))) (fun x hx => hsp x (by simp [hx]))) trodAll_mk0)
      rw [List.append_nil] at h
      exact h) (fun _ _ => rfl) (by simp) hg (ok_one (by kernel_rfl) rfl (okWide_bool_mk Try.underlying4 _))⟩

set_option maxRecDepth 100000 in
theorem lifted (os : Os) (started : os.Started) (H : Type) (enc : TypeId × Value → H) (F : Stop.Interp) :
    ReturnsInHanded {} Try.checked os 4 .any ((Rows.OpenSpec.upto Rows.fnReadSpec).pre6 enc Try.prog Try.f4 Rows.fnReadUptoRow.domain false) (((Rows.OpenSpec.upto Rows.fnReadSpec).at F).post enc Try.prog Try.f4 false true false false) := by
  refine returnsInHanded_of_cond (C := Try.checked) (s := Rows.OpenSpec.upto Rows.fnReadSpec) (k := Rows.uptoSmall) rfl own_ started (by kernel_rfl) Try.func4
    (OpenSpec.witness (enc := enc) (C := Try.checked) (s := Rows.OpenSpec.upto Rows.fnReadSpec) (k := Rows.uptoSmall) rfl false ⟨#[], #[.agg #[.int .u8 0, .int .u8 0, .int .u8 0, .int .u8 0, .int .u8 0, .int .u8 0, .int .u8 0, .int .u8 0, .int .u8 0, .int .u8 0, .int .u8 0, .int .u8 0, .int .u8 0, .int .u8 0, .int .u8 0, .int .u8 0, .int .u8 0, .int .u8 0, .int .u8 0, .int .u8 0, .int .u8 0, .int .u8 0, .int .u8 0, .int .u8 0, .int .u8 0, .int .u8 0, .int .u8 0, .int .u8 0, .int .u8 0, .int .u8 0, .int .u8 0, .int .u8 0], .slice none 0 0], []⟩ 8 (by kernel_rfl) (by kernel_rfl) (by kernel_rfl)
      (x := ([.agg [.lit (.int .u8 0), .lit (.int .u8 0), .lit (.int .u8 0), .lit (.int .u8 0), .lit (.int .u8 0), .lit (.int .u8 0), .lit (.int .u8 0), .lit (.int .u8 0), .lit (.int .u8 0), .lit (.int .u8 0), .lit (.int .u8 0), .lit (.int .u8 0), .lit (.int .u8 0), .lit (.int .u8 0), .lit (.int .u8 0), .lit (.int .u8 0), .lit (.int .u8 0), .lit (.int .u8 0), .lit (.int .u8 0), .lit (.int .u8 0), .lit (.int .u8 0), .lit (.int .u8 0), .lit (.int .u8 0), .lit (.int .u8 0), .lit (.int .u8 0), .lit (.int .u8 0), .lit (.int .u8 0), .lit (.int .u8 0), .lit (.int .u8 0), .lit (.int .u8 0), .lit (.int .u8 0), .lit (.int .u8 0)], .nil], [], [])) (by kernel_rfl) rfl (by kernel_rfl)) ?_
  intro W base args ds gs before hval hW _ hk _
  exact contract H enc W base args ds gs before hval hW hk

theorem over : Rows.fnReadUptoRow.holds Try.pinned (Rows.OpenSpec.upto Rows.fnReadSpec) :=
  OpenClaim.holds_of_cond 4 Try.f4 rfl rfl rfl rfl rfl rfl rfl ⟨rfl, rfl, rfl, rfl, rfl⟩ rfl rfl rfl rfl rfl (by kernel_rfl) Try.func4 (by kernel_rfl)
    (of_decide_eq_true (by kernel_rfl)) (by unfold Func.isWrapper; first | (rw [if_pos (by decide +kernel)]; kernel_rfl) | (rw [if_neg (by decide +kernel)]; exact ⟨rfl, rfl⟩))
    (fun os started H enc _ F => lifted os started H enc F)

end fnRead

theorem fnReadUpto_holds : Rows.FnReadUptoSaid := fnRead.over

end Go.Proofs.Ytiofpkfcinfhiaa
