/-
  Read of a ChaCha8 (function 40): every state, every length up to 65536.
-/
import Derived.Test.YtiofpkfcinfhiaaBytes
import Derived.Deep.DeepCutAuto
import Derived.StillTailTactics
import Derived.Laws.CopyRow
import Derived.Test.YtiofpkfcinfhiaaWord
namespace Go.Proofs.Ytiofpkfcinfhiaa
open Go.RowKit

/-- What holds at the head of a round of Read's loop. -/
def ReadRel (w : World) (C B : Nat) (arr : Array Value) (out : List Value) (m rest : Nat) (r : Core) (rb : List Value) (rl : Int) (p n : Value) (wr : World) : Prop :=
  ∃ (j : Nat) (A : Option Addr), 8 * j ≤ rest ∧ p = .slice A (rest - 8 * j) (rest - 8 * j) ∧ (0 < rest - 8 * j → A = some ⟨B, m + 8 * j, none⟩) ∧ n = .int .i64 ((m + 8 * j : Nat) : Int) ∧
    Blk wr B 5 (splice arr 0 (out ++ (drawMany j r).1)) ∧ Blk wr C 96 ((drawMany j r).2.cells rb rl) ∧ Only (fun i => i = C ∨ i = B) w wr

/-- What the rest of Read makes of a state: the bytes, and the state behind them. -/
noncomputable def tailBytes (r : Core) (rest : Nat) : List Value := (drawMany (rest / 8) r).1 ++ (if rest % 8 = 0 then [] else (bytes8 (drawWord (drawMany (rest / 8) r).2).1).take (rest % 8))
noncomputable def tailCore (r : Core) (rest : Nat) : Core := if rest % 8 = 0 then (drawMany (rest / 8) r).2 else (drawWord (drawMany (rest / 8) r).2).2
noncomputable def tailRb (r : Core) (rb : List Value) (rest : Nat) : List Value := if rest % 8 = 0 then rb else bytes8 (drawWord (drawMany (rest / 8) r).2).1
def tailRl (rl rest : Nat) : Nat := if rest % 8 = 0 then rl else 8 - rest % 8

theorem splice_all (arr : Array Value) (bs : List Value) (h : bs.length = arr.size) : splice arr 0 bs = bs.toArray := by
  unfold splice
  rw [List.take_zero, List.nil_append, Nat.zero_add, List.drop_of_length_le (by simp [h]), List.append_nil]

/-- The length of a slice in a slot. -/
def lenOf : Value → Nat | .slice _ n _ => n | _ => 0

/-- The bytes that are taken from the store of a generator. -/
def kept (rb : List Value) (rl n : Nat) : List Value := (rb.drop (8 - rl)).take n

theorem kept_length (rb : List Value) (hrb : rb.length = 8) (rl n : Nat) (h : rl ≤ 8) : (kept rb rl n).length = min n rl := by
  unfold kept
  rw [List.length_take, List.length_drop, hrb]; omega


/-- A value that is a byte. -/
def IsByte (v : Value) : Prop := ∃ x : Int, v = .int .u8 x ∧ 0 ≤ x ∧ x < 256
theorem IsByte.one {v : Value} (h : IsByte v) : v.oneCell' = true := by obtain ⟨x, rfl, _⟩ := h; rfl

theorem size5 : (Try.prog.info? 5).map (·.size) = some 1 := by kernel_rfl

theorem len94 : Try.prog.arrayLen 94 = 8 := by kernel_rfl
theorem elem94 : Try.prog.elem 94 = 5 := by kernel_rfl
theorem slice_kept (C rl : Nat) (h1 : 1 ≤ rl) (h8 : rl ≤ 8) (w : World) : (Instr.sliceAt 94 (.pointer (some ⟨C, 39, none⟩)) (some (.int .i64 (IntKind.i64.wrap (8 - (rl : Int))))) none none).run Try.prog w = .ok (.slice (some ⟨C, 39 + (8 - rl), none⟩) rl rl) w := by
  have hw : IntKind.i64.wrap (8 - (rl : Int)) = ((8 - rl : Nat) : Int) := by rw [IntKind.wrap_i64]; omega
  rw [hw, run_sliceAt_array_l (P := Try.prog) w 94 ⟨C, 39, none⟩ (by kernel_rfl) .i64 _ (by omega) (by rw [len94]; omega), len94, elem94]
  have hs : (sizeOf 5).run Try.prog w = .ok 1 w := by
    have := size5
    simp only [Option.map_eq_some_iff] at this
    obtain ⟨i, hi, h⟩ := this
    simp [sizeOf, typeInfo, hi, h]
  rw [hs]
  simp only [Result.andThen_ok, slicedAt, Int.toNat_natCast, Nat.mul_one]
  rw [if_neg (by omega)]
  have e : (⟨C, 39, none⟩ : Addr).add (8 - rl) = ⟨C, 39 + (8 - rl), none⟩ := by unfold Addr.add; split <;> simp_all
  have e2 : 8 - (8 - rl) = rl := by omega
  rw [e, e2]

theorem bytes8_byte (x : Int) : ∀ v ∈ bytes8 x, IsByte v := by
  intro v hv
  simp only [bytes8, List.mem_cons, List.not_mem_nil, or_false] at hv
  rcases hv with rfl | rfl | rfl | rfl | rfl | rfl | rfl | rfl <;> exact ⟨_, rfl, Int.emod_nonneg _ (by decide), Int.emod_lt_of_pos _ (by decide)⟩

theorem core_set47 {r : Core} (hr : r.Ok) {rb : List Value} (hrb : rb.length = 8) {rl : Int} (v : Int) : (r.cells rb rl).setIfInBounds 47 (.int .i64 v) = r.cells rb v := cha_set47 hr.bl hrb v

/-- copy of bytes out of one block into another. -/
theorem copy_blk {w : World} {B C q o dl dc sl sc k : Nat} {t : TypeId} {cur src : Array Value} (hB : Blk w B 5 cur) (hC : Blk w C t src) (cs : List Value) (hk : cs.length = k) (hn : k = min sl dl) (hsrc : ∀ j, j < k → src[q + j]? = cs[j]?) (hfit : o + k ≤ cur.size) (h1 : ∀ v ∈ cs, IsByte v) :
    (Builtin.copy_ #[28, 28] 3 #[.slice (some ⟨B, o, none⟩) dl dc, .slice (some ⟨C, q, none⟩) sl sc]).run Try.prog w = .ok (.int .i64 (k : Int)) (w.setRow B (splice cur o cs)) := by
  subst hk
  rw [run_copy_row (P := Try.prog) w 28 28 3 5 B o dl dc ⟨C, q, none⟩ sl sc cur 5 cs Try.underlying28 size5 hB hn (fun j v hj => by
    have e : (⟨C, q, none⟩ : Addr).add j = ⟨C, q + j, none⟩ := by unfold Addr.add; split <;> simp_all
    have hlt : j < cs.length := by rcases Nat.lt_or_ge j cs.length with a | a; exact a; rw [List.getElem?_eq_none (by omega)] at hj; cases hj
    rw [e, hC.cell, hsrc j hlt, hj]) hfit (fun v hv => (h1 v hv).one)]
  rfl

set_option maxRecDepth 100000 in
set_option maxHeartbeats 2000000 in
theorem read_any (C B : Nat) (hCB : C ≠ B) (r : Core) (hr : r.Ok) (rb : List Value) (hrb : rb.length = 8) (hby : ∀ v ∈ rb, IsByte v) (rl : Nat) (hrl : rl ≤ 8) (n : Nat) (hn : n ≤ 65536) (arr : Array Value) (hsz : arr.size = n) (w : World) (hC : Blk w C 96 (r.cells rb rl)) (hB : Blk w B 5 arr) :
    Calls Try.prog 40 #[.pointer (some ⟨C, 0, none⟩), .slice (some ⟨B, 0, none⟩) n n] w fun e w' => e = .returned (.tuple #[.int .i64 n, .nilIface]) ∧ Blk w' B 5 (kept rb rl n ++ tailBytes r (n - min n rl)).toArray ∧ Blk w' C 96 ((tailCore r (n - min n rl)).cells (tailRb r rb (n - min n rl)) (tailRl (rl - min n rl) (n - min n rl) : Nat)) ∧ Only (fun i => i = C ∨ i = B) w w' := by
  have hlen := kept_length rb hrb rl n hrl
  obtain ⟨m, hm⟩ : ∃ m, min n rl = m := ⟨_, rfl⟩
  rw [hm] at hlen ⊢
  have hm1 : m ≤ n := by omega
  have hm2 : m ≤ rl := by omega
  have hm3 : m = n ∨ m = rl := by omega
  clear hm
  have c47 : w.cell? ⟨C, 47, none⟩ = some (.int .i64 rl) := by
    have h := (hC.cell 47).trans (cha_at hr.bl 15)
    simpa [List.getElem?_append_right, hrb] using h
  have HC := hide hC
  have HB := hide hB
  have Hsz := hide hsz
  have Hlen := hide hlen
  clear hC hB hsz hlen
  go_enter Try.func40, Try.ntmps40
  go_upto_if 10 with (fail)
  go_cut [1, 4] from 10 to 32 (fun p k wc => ∃ A, p = .slice A (n - m) (n - m) ∧ (0 < n - m → A = some ⟨B, m, none⟩) ∧ k = .int .i64 (m : Nat) ∧ Blk wc B 5 (splice arr 0 (kept rb rl n)) ∧ Blk wc C 96 (r.cells rb (rl - m : Nat)) ∧ Only (fun i => i = C ∨ i = B) w wc)
  case first =>
    by_cases h0 : rl = 0
    · subst h0
      obtain rfl : m = 0 := by omega
      clear hm3
      go_wp2_with fail
      go_meet
      refine ⟨some ⟨B, 0, none⟩, ?_, ?_, ?_, ?_, ?_, Only.refl _ _⟩
      · rfl
      · intro _; rfl
      · rfl
      · have : kept rb 0 n = [] := by unfold kept; rw [List.drop_of_length_le (by omega), List.take_nil]
        rw [this, splice_nil]; exact HB.out
      · exact HC.out
    · obtain ⟨W1, hW1⟩ : ∃ W1, w.drew.setRow B (splice arr 0 (kept rb rl n)) = W1 := ⟨_, rfl⟩
      have hcp : (Builtin.copy_ #[28, 28] 3 #[.slice (some ⟨B, 0, none⟩) n n, .slice (some ⟨C, 39 + (8 - rl), none⟩) rl rl]).run Try.prog w.drew = .ok (.int .i64 (m : Nat)) W1 := by
        rw [← hW1]
        exact copy_blk HB.out.drew HC.out.drew _ Hlen.out (by omega) (fun j hj => by
          rw [Core.cells, show 39 + (8 - rl) + j = 32 + (7 + (8 - rl + j)) by omega, cha_at hr.bl]
          unfold kept
          rw [List.getElem?_take_of_lt (by omega), List.getElem?_drop]
          rw [show 7 + (8 - rl + j) = (8 - rl + j) + 7 by omega]
          simp only [List.getElem?_cons_succ]
          rw [List.getElem?_append_left (by omega)]) (by have := Hsz.out; omega) (fun v hv => hby v (List.mem_of_mem_drop (List.mem_of_mem_take hv)))
      have hsl := slice_kept C rl (by omega) hrl w.drew
      have hC1 := (HC.out.drew.row_far (h := B) hCB (splice arr 0 (kept rb rl n)))
      have hB1 := (HB.out.drew.row (splice arr 0 (kept rb rl n)))
      have hO1 := (Only.refl (fun i => i = C ∨ i = B) w).drew.setRow (g := B) (.inl (.inr rfl)) (splice arr 0 (kept rb rl n))
      rw [hW1] at hC1 hB1 hO1
      have d47 : W1.cell? ⟨C, 47, none⟩ = some (.int .i64 rl) := by
        have h := (hC1.cell 47).trans (cha_at hr.bl 15)
        simpa [List.getElem?_append_right, hrb] using h
      have f47 : W1.frozen? ⟨C, 47, none⟩ = false := hC1.frozen 47
      have HC1 := hide hC1
      have HB1 := hide hB1
      have HO1 := hide hO1
      clear hC1 hW1 hB1 hO1 hm3 HC HB
      go_wp2_with fail
      go_still_tail 10, (by kernel_rfl)
      change wpList _ _ _ _ _ w.drew
      go_wp2
      · go_meet
        refine ⟨some ⟨B, 0, none⟩, by rw [h, Nat.sub_self], fun hx => absurd hx (by omega), rfl, HB1.out.far (p := ⟨C, 47, none⟩) (fun e => hCB e.symm) _, ?_, HO1.out.setCell (.inl (.inl rfl)) _⟩
        rw [Int.ofNat_sub hm2, ← core_set47 hr hrb]
        exact HC1.out.set_ 47 _
      · go_meet
        refine ⟨some ⟨B, m, none⟩, by rfl, fun _ => rfl, rfl, HB1.out.far (p := ⟨C, 47, none⟩) (fun e => hCB e.symm) _, ?_, HO1.out.setCell (.inl (.inl rfl)) _⟩
        rw [Int.ofNat_sub hm2, ← core_set47 hr hrb]
        exact HC1.out.set_ 47 _
  case rest =>
    obtain ⟨A, rfl, hA, rfl, hB, hC, hO⟩ := hcut
    generalize hk : rl - m = k at *
    generalize hrest : n - m = rest at *
    have Hk := hide hk
    clear hm3 hm2 hk
    have hst : ReadRel w C B arr (kept rb rl n) m rest r rb k (.slice A rest rest) (.int .i64 (m : Nat)) wc := ⟨0, A, by omega, rfl, fun h => hA h, rfl, by rw [drawMany, List.append_nil]; exact hB, hC, hO⟩
    have Hst := hide hst
    clear hst hA c47 HC HB hB hC hO
    go_wp2_with fail
    go_loopw [1, 4] (fun p q wr => ReadRel w C B arr (kept rb rl n) m rest r rb k p q wr) (fun p _ _ => lenOf p)
    case atStart => exact Hst.out
    case round =>
      obtain ⟨j, A, hj, rfl, hA, rfl, hB, hC, hO⟩ := hrel
      have hok := drawMany_ok hr j
      by_cases h8 : 8 ≤ rest - 8 * j
      · obtain rfl := hA (by omega)
        have HB := hide hB
        have HC := hide hC
        have HO := hide hO
        have Hok := hide hok
        clear hB hC hO hok hA
        go_wp2_with fail
        go_call (drawWord_calls Hok.out rb k hrb C wr HC.out) as e w1 ⟨rfl, hC1, hA1⟩
        have HC1 := hide hC1
        have HA1 := hide hA1
        have HB1 := hide (HB.out.apart hA1 (by omega))
        clear hC1 hA1
        go_wp2_with fail
        have hcl : (kept rb rl n ++ (drawMany j r).1).length = m + 8 * j := by
          have := Hlen.out; rw [List.length_append, drawMany_length]; omega
        have hss : (splice arr 0 (kept rb rl n ++ (drawMany j r).1)).size = n := by
          rw [splice_size _ _ _ (by have := Hsz.out; omega)]; exact Hsz.out
        have Hss := hide hss
        have Hcl := hide hcl
        clear hss hcl
        go_call (put_any B (m + 8 * j) (rest - 8 * j) (rest - 8 * j) h8 (by omega) _ 5 _ w1 HB1.out (by have := Hss.out; omega)) as e w2 ⟨rfl, hB2, hA2⟩
        have HB2 := hide hB2
        have HA2 := hide hA2
        clear hB2 hA2
        go_wp2
        have e1 : rest - 8 * j - 8 = rest - 8 * (j + 1) := by omega
        rw [e1]
        refine ⟨⟨j + 1, _, by omega, rfl, ?_, ?_, ?_, ?_, ?_⟩, by simp only [lenOf]; omega⟩
        · intro h
          rw [if_neg (by omega)]
          rfl
        · rfl
        · have h2 := HB2.out
          rw [← Hcl.out, splice_splice, List.append_assoc] at h2
          exact h2
        · exact HC1.out.apart HA2.out (by omega)
        · exact (HO.out.trans (Only.of_apart HA1.out (fun i a b => .inl (by omega)))).trans (Only.of_apart HA2.out (fun i a b => .inr (by omega)))
      · obtain rfl : j = rest / 8 := by omega
        by_cases hz : rest % 8 = 0
        · go_wp2_with fail
          go_ret2
          refine ⟨?_, ?_, ?_, hO⟩
          · show Ending.returned (.tuple #[.int .i64 ((m + 8 * (rest / 8) : Nat) : Int), .nilIface]) = _
            rw [show m + 8 * (rest / 8) = n by omega]
          · rw [hrest, show tailBytes r rest = (drawMany (rest / 8) r).1 by rw [tailBytes, if_pos hz, List.append_nil], ← splice_all arr _ (by have h1 := Hlen.out; have h2 := Hsz.out; rw [List.length_append, drawMany_length]; omega)]
            exact hB
          · rw [hrest, tailCore, if_pos hz, tailRb, if_pos hz, tailRl, if_pos hz, Hk.out]
            exact hC
        · obtain rfl := hA (by omega)
          have Ht : Hid (rest % 8 = rest - 8 * (rest / 8)) := hide (by omega)
          generalize rest - 8 * (rest / 8) = t at *
          have ht0 : 0 < t := by have := Ht.out; omega
          have HB := hide hB
          have HC := hide hC
          have HO := hide hO
          have Hok := hide hok
          clear hB hC hO hok hA hz
          go_wp2_with fail
          go_region_held3 (fun _ => True) (trivial) (first
            | (go_at_call 64; refine (drawWord_calls Hok.out rb k hrb C wr.drew HC.out.drew).mono ?_; rintro e w1 ⟨rfl, hC1, hA1⟩; have HC1 := hide hC1; have HA1 := hide hA1; clear hC1 hA1)
            | (go_at_call 63; refine (put_any C 39 8 8 (by omega) (by omega) _ 96 _ w1 HC1.out (by rw [Core.cells, cha_size (drawWord_ok Hok.out).bl hrb]; omega)).mono ?_; rintro e w2 ⟨rfl, hC2, hA2⟩; have HC2 := hide hC2; have HA2 := hide hA2; clear hC2 hA2))
          have hB2 := (HB.out.drew.apart HA1.out (by omega)).apart HA2.out (by omega)
          have hC2 := HC2.out
          rw [Core.cells, cha_rb (drawWord_ok Hok.out).bl hrb rfl] at hC2
          have hcl : (kept rb rl n ++ (drawMany (rest / 8) r).1).length = m + 8 * (rest / 8) := by
            have := Hlen.out; rw [List.length_append, drawMany_length]; omega
          have hss : (splice arr 0 (kept rb rl n ++ (drawMany (rest / 8) r).1)).size = n := by
            rw [splice_size _ _ _ (by have := Hsz.out; omega)]; exact Hsz.out
          obtain ⟨W3, hW3⟩ : ∃ W3, w2.setRow B (splice (splice arr 0 (kept rb rl n ++ (drawMany (rest / 8) r).1)) (m + 8 * (rest / 8)) ((bytes8 (drawWord (drawMany (rest / 8) r).2).1).take t)) = W3 := ⟨_, rfl⟩
          have hcp := copy_blk (o := m + 8 * (rest / 8)) (q := 39) (dl := t) (dc := t) (sl := 8) (sc := 8) hB2 hC2 ((bytes8 (drawWord (drawMany (rest / 8) r).2).1).take t) (k := t) (by rw [List.length_take]; exact Nat.min_eq_left (by simp only [bytes8, List.length_cons, List.length_nil]; omega)) (by omega) (fun j hj => by
            rw [show 39 + j = 32 + (7 + j) by omega, cha_at (drawWord_ok Hok.out).bl, Nat.add_comm 7 j]
            simp only [List.getElem?_cons_succ]
            rw [List.getElem?_append_left (by simp only [bytes8, List.length_cons, List.length_nil]; omega), List.getElem?_take_of_lt hj]) (by have := Ht.out; omega) (fun v hv => bytes8_byte _ v (List.mem_of_mem_take hv))
          have hC3 := hC2.row_far (h := B) hCB (splice (splice arr 0 (kept rb rl n ++ (drawMany (rest / 8) r).1)) (m + 8 * (rest / 8)) ((bytes8 (drawWord (drawMany (rest / 8) r).2).1).take t))
          have hB3 := hB2.row (splice (splice arr 0 (kept rb rl n ++ (drawMany (rest / 8) r).1)) (m + 8 * (rest / 8)) ((bytes8 (drawWord (drawMany (rest / 8) r).2).1).take t))
          have hO3 := ((HO.out.drew.trans (Only.of_apart HA1.out (fun i a b => .inl (by omega)))).trans (Only.of_apart HA2.out (fun i a b => .inl (by omega)))).setRow (g := B) (.inl (.inr rfl)) (splice (splice arr 0 (kept rb rl n ++ (drawMany (rest / 8) r).1)) (m + 8 * (rest / 8)) ((bytes8 (drawWord (drawMany (rest / 8) r).2).1).take t))
          rw [hW3] at hcp hC3 hB3 hO3
          rw [← hcl, splice_splice, List.append_assoc] at hB3
          have c47 : W3.cell? ⟨C, 47, none⟩ = some (.int .i64 k) := by
            have h := (hC3.cell 47).trans (cha_at (drawWord_ok Hok.out).bl 15)
            simpa [List.getElem?_append_right, bytes8] using h
          have f47 : W3.frozen? ⟨C, 47, none⟩ = false := hC3.frozen 47
          have HC3 := hide hC3
          have HB3 := hide hB3
          have HO3 := hide hO3
          clear hW3 hC3 hB3 hO3 hB2 hC2 hcl hss HC2 HA2 HC1 HA1 HB HC HO
          go_wp2
          go_ret2
          have ht := Ht.out
          have hz : ¬ rest % 8 = 0 := by omega
          refine ⟨?_, ?_, ?_, HO3.out.setCell (.inl (.inl rfl)) _⟩
          · show Ending.returned (.tuple #[.int .i64 _, .nilIface]) = _
            rw [show (m : Int) + 8 * ((rest : Int) / 8) + (t : Int) = n by omega]
          · rw [hrest, tailBytes, if_neg hz, ht, ← splice_all arr _ (by have h1 := Hlen.out; have h2 := Hsz.out; rw [List.length_append, List.length_append, List.length_take, drawMany_length]; simp only [bytes8, List.length_cons, List.length_nil]; omega)]
            exact HB3.out.far (p := ⟨C, 47, none⟩) (fun e => hCB e.symm) _
          · rw [hrest, tailCore, if_neg hz, tailRb, if_neg hz, tailRl, if_neg hz, ht, Int.ofNat_sub (by omega), ← core_set47 (drawWord_ok Hok.out) (by rfl)]
            exact HC3.out.set_ 47 _

end Go.Proofs.Ytiofpkfcinfhiaa
