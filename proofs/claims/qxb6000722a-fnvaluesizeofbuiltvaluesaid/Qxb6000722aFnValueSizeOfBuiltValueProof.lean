/-
  THE ROW of FnValueSizeOfBuiltValue, out of the walk.
-/
import Derived.Test.Qxb6000722aRows
import Derived.Test.Qxb6000722aMain
import Derived.Test.Qxb6000722aFacts
import Derived.WalkKit
import Derived.ProofKit
import Derived.OpenShut
import Derived.ShutString
import Derived.ChangeOld
import Derived.Below
import Derived.SliceStrings
namespace Go.Proofs.Qxb6000722a.fnValueSizeOfBuiltValue
open Go.ChangeShapes Go.WideShapes Go.ChangeAt Go.RowKit
open Go.ChangeMaps (open_string shut_string)
set_option linter.unusedVariables false

theorem own : ownKnob Try.prog.godebug = none := by kernel_rfl
theorem laidOut : laidOutB Try.prog = true := by kernel_rfl

/-- A slice of integers that came in, as the walk is told of it. -/
theorem tail_of {w : World} {x : Addr} {len : Nat} {zs : List Int} (hl : len ≤ zs.length)
    (hcell : ∀ i, i < zs.length → w.cell? (x.add i) = some (.int .u8 (zs.getD i 0))) : Tl w (some x) (zs.take len) := by
  intro k hk
  have hlen : (zs.take len).length = len := by simp; omega
  rw [hlen] at hk
  obtain ⟨b, off, spot⟩ := x
  have hc := hcell 0 (by omega)
  have hspot : spot = none := by simpa [Addr.add] using World.cell?_spot hc
  subst hspot
  have hlt := World.block_lt_of_cell? w _ hc
  have hadd : ∀ i, (⟨b, off, none⟩ : Addr).add i = ⟨b, off + i, none⟩ := fun i => by unfold Addr.add; split <;> simp_all
  rw [hadd] at hlt
  refine ⟨b, off, rfl, hlt, fun i hi => ?_⟩
  rw [hlen] at hi
  have := hcell i (by omega)
  rw [hadd] at this
  rw [this, List.getD_eq_getElem?_getD, List.getD_eq_getElem?_getD, List.getElem?_take, if_pos hi]

theorem words_of {w : World} {x : Addr} {len : Nat} {ss : List ByteArray} (hl : len ≤ ss.length)
    (hcell : ∀ i, i < ss.length → w.cell? (x.add i) = some (.string (ss.getD i ByteArray.empty))) : Wds w (some x) len (fun i => ss.getD i ByteArray.empty) := by
  intro k hk
  obtain ⟨b, off, spot⟩ := x
  have hc := hcell 0 (by omega)
  have hspot : spot = none := by simpa [Addr.add] using World.cell?_spot hc
  subst hspot
  have hlt := World.block_lt_of_cell? w _ hc
  have hadd : ∀ i, (⟨b, off, none⟩ : Addr).add i = ⟨b, off + i, none⟩ := fun i => by unfold Addr.add; split <;> simp_all
  rw [hadd] at hlt
  refine ⟨b, off, rfl, hlt, fun i hi => ?_⟩
  have := hcell i (by omega)
  rw [hadd] at this
  exact this

theorem byte_bd {zs : List Int} {len : Nat} (h : ∀ n ∈ zs, (Lit.int .u8 n).wf = true) (i : Nat) : 0 ≤ (zs.take len).getD i 0 ∧ (zs.take len).getD i 0 ≤ 255 := by
  rw [List.getD_eq_getElem?_getD]
  by_cases hi : i < (zs.take len).length
  · rw [List.getElem?_eq_getElem hi]
    have hm : (zs.take len)[i] ∈ zs := List.mem_of_mem_take (List.getElem_mem hi)
    have := h _ hm
    have := bounds_u8 this
    simp only [Option.getD_some]
    omega
  · rw [List.getElem?_eq_none (by omega)]
    simp

/-- The words' walk facts, and the walk itself. -/
theorem walkRow (a0 : Option Addr) (n cap0 : Nat) (wd : Nat → ByteArray) (dep : Int) (a2 : Option Addr) (tl : List Int) (len2 cap2 : Nat) (w : World)
    (w0 : Wds w a0 n wd) (hl0 : n ≤ 9223372036854775807) (hsz : ∀ i, i < n → (wd i).size ≤ 9223372036854775807) (w1 : (Lit.int .i64 dep).wf = true)
    (ht : tl.length = len2) (w2 : Tl w a2 tl) (hb2 : ∀ i, 0 ≤ tl.getD i 0 ∧ tl.getD i 0 ≤ 255) (hnone : a2 = none → len2 = 0 ∧ cap2 = 0) (hl2 : len2 ≤ cap2) (hc2 : cap2 ≤ 9223372036854775807) :
    Calls Try.prog 8 #[.slice a0 n cap0, .int .i64 dep, .slice a2 len2 cap2] w fun e w' => e = .returned (.bool true) ∧ Below w.heap.size w w' := by
  subst ht
  exact walk a0 n cap0 wd dep a2 tl cap2 w w0 hl0 hsz w1 w2 hb2 hnone hl2 hc2

set_option maxRecDepth 100000 in
theorem lifted (os : Os) (started : os.Started) (H : Type) (enc : TypeId × Value → H) :
    ReturnsInHanded {} Try.checked os 8 .any (Rows.fnValueSizeOfBuiltValueSpec.pre6 enc Try.prog Try.f8 Rows.fnValueSizeOfBuiltValueRow.domain false) (Rows.fnValueSizeOfBuiltValueSpec.post enc Try.prog Try.f8 false true false false) := by
  refine returnsInHanded_of_change (C := Try.checked) own started (by kernel_rfl) Try.func8
    (ChangeSpec.witness6 (enc := enc) (C := Try.checked) false ⟨#[], #[.slice none 0 0, .int .i64 0, .slice none 0 0], []⟩ 8 (by kernel_rfl) (by kernel_rfl) (by kernel_rfl) (by kernel_rfl)) ?_
  intro W base args ds gs before hval0 hW hcnd _
  have hval : ∀ (j : Nat) t v, Try.f8.params[j]? = some t → args[j]? = some v → Value.okWide Try.prog W .any base t v := hval0
  have hW' := hW
  obtain ⟨p, q, hA0, hV, rfl, hfz, hnd⟩ := hW
  have hA : DataW.TrodAll enc Try.prog W 0 (fun _ => true) true Try.f8.params.toList args.toList ds p := hA0
  rw [Try.params8] at hA hval
  obtain ⟨v0, vs0, d0, ds0, p0, q0, hargs, rfl, rfl, h0, r0⟩ := trodAll_cons hA
  obtain ⟨v1, vs1, d1, ds1, p1, q1, rfl, rfl, rfl, h1, r1⟩ := trodAll_cons r0
  obtain ⟨v2, vs2, d2, ds2, p2, q2, rfl, rfl, rfl, h2, r2⟩ := trodAll_cons r1
  obtain ⟨rfl, rfl, rfl⟩ := trodAll_nil r2
  obtain rfl : args = #[v0, v1, v2] := by cases args; simp_all
  obtain ⟨rfl, rfl⟩ := trodVars_none hV
  obtain ⟨a0, len0, cap0, rfl⟩ := okWide_slice Try.underlying29 (hval 0 29 v0 rfl rfl)
  have k0 := h0
  have lt0 : ∀ x ∈ p0, x.block < W.heap.size := by obtain ⟨m, hm⟩ := k0; exact DataW.trod_lt m _ _ _ hm
  obtain ⟨wd, w0, hl0, hsz⟩ : ∃ wd, Wds W a0 len0 wd ∧ len0 ≤ 9223372036854775807 ∧ ∀ i, i < len0 → (wd i).size ≤ 9223372036854775807 := by
    obtain ⟨fuel, hf⟩ := h0
    rcases open_strings Try.underlying29 Try.underlying9 (by kernel_rfl) hf with ⟨hcs, _⟩ | ⟨x, l, c, ss, hcs, _, hl, hm, hz, _, hcell, hws⟩
    · simp [Value.cells] at hcs
      obtain ⟨rfl, rfl, rfl⟩ := hcs
      exact ⟨fun _ => ByteArray.empty, fun k hk => absurd hk (Nat.not_lt_zero _), by omega, fun i hi => absurd hi (Nat.not_lt_zero _)⟩
    · simp [Value.cells] at hcs
      obtain ⟨rfl, rfl, rfl⟩ := hcs
      have hz' : ss.length = cap0 := by simpa using hz
      unfold maxLen at hm
      refine ⟨_, words_of (by omega) hcell, by omega, fun i hi => ?_⟩
      show (ss.getD i ByteArray.empty).size ≤ _
      have hi' : i < ss.length := by omega
      rw [List.getD_eq_getElem?_getD, List.getElem?_eq_getElem hi']
      have := hws _ (List.getElem_mem hi')
      unfold maxLen at this
      exact this
  obtain ⟨a1, rfl, rfl, rfl, w1⟩ := open_int Try.underlying3 (hval 1 3 v1 rfl rfl) h1
  obtain ⟨a2, len2, cap2, rfl⟩ := okWide_slice Try.underlying22 (hval 2 22 v2 rfl rfl)
  have k2 := h2
  have lt2 : ∀ x ∈ p2, x.block < W.heap.size := by obtain ⟨m, hm⟩ := k2; exact DataW.trod_lt m _ _ _ hm
  obtain ⟨tl, ht, w2, hb2, hnone, hl2, hc2⟩ : ∃ tl : List Int, tl.length = len2 ∧ Tl W a2 tl ∧ (∀ i, 0 ≤ tl.getD i 0 ∧ tl.getD i 0 ≤ 255) ∧ (a2 = none → len2 = 0 ∧ cap2 = 0) ∧ len2 ≤ cap2 ∧ cap2 ≤ 9223372036854775807 := by
    obtain ⟨fuel, hf⟩ := h2
    rcases open_ints Try.underlying22 Try.underlying5 (by kernel_rfl) hf with ⟨hcs, _⟩ | ⟨x, l, c, zs, hcs, _, hl, hm, hz, _, hcell, hwz⟩
    · simp [Value.cells] at hcs
      obtain ⟨rfl, rfl, rfl⟩ := hcs
      exact ⟨[], rfl, fun k hk => absurd hk (Nat.not_lt_zero _), fun i => by simp, fun _ => ⟨rfl, rfl⟩, by omega, by omega⟩
    · simp [Value.cells] at hcs
      obtain ⟨rfl, rfl, rfl⟩ := hcs
      have hz' : zs.length = cap2 := by simpa using hz
      unfold maxLen at hm
      exact ⟨zs.take len2, by simp; omega, tail_of (by omega) hcell, byte_bd hwz, fun h => by simp at h, by omega, by omega⟩
  clear hA0 hval0
  refine (walkRow a0 len0 cap0 wd a1 a2 tl len2 cap2 W w0 hl0 hsz w1 ht w2 hb2 hnone hl2 hc2).mono fun e W' ⟨he, bel⟩ => ?_
  subst he
  exact ⟨_, rfl, _, _, _, [], _, [], hW', trodAll_mk1 (shut_bool Try.underlying4 _), (trodAll_cons_mk (Below.trod laidOut (by kernel_rfl) (of_decide_eq_true (by kernel_rfl)) k0 bel lt0) (trodAll_cons_mk (shut_int Try.underlying3 w1) (trodAll_cons_mk (Below.trod laidOut (by kernel_rfl) (of_decide_eq_true (by kernel_rfl)) k2 bel lt2) trodAll_mk0))), rfl, bel.frame _, fun h => by cases h⟩

theorem over : Rows.fnValueSizeOfBuiltValueRow.holds Try.pinned (OpenSpec.ofChange Rows.fnValueSizeOfBuiltValueSpec) :=
  OpenClaim.holds_of_wide 8 Try.f8 rfl rfl rfl rfl rfl rfl rfl ⟨rfl, rfl, rfl, rfl, rfl⟩ rfl rfl rfl rfl rfl (by kernel_rfl) Try.func8 closedFact
    (of_decide_eq_true (by kernel_rfl)) (by unfold Func.isWrapper; first | (rw [if_pos (by decide +kernel)]; kernel_rfl) | (rw [if_neg (by decide +kernel)]; exact ⟨rfl, rfl⟩))
    (fun os started H enc _ => lifted os started H enc)

end Go.Proofs.Qxb6000722a.fnValueSizeOfBuiltValue

namespace Go.Proofs.Qxb6000722a
/-- THE STATEMENT. -/
theorem fnValueSizeOfBuiltValue_proved : Rows.FnValueSizeOfBuiltValueSaid := fnValueSizeOfBuiltValue.over
end Go.Proofs.Qxb6000722a
