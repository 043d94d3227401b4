/-
  THE WALKS of appendDecimal, cloneBytes, cloneInt64s, isJSONSpace, zzBytes.
-/
import Derived.Test.Qxb6001245aRows
import Derived.Test.Qxb6001245aPlain
import Derived.WalkKit
import Derived.WalkSpells
import Derived.WalkLawsBesides
import Derived.Maps.AppendAt
import Derived.Maps.Range
namespace Go.Proofs.Qxb6001245a
open Go.RowKit

theorem info5 : (Try.prog.info? 5).map (fun i => (i.zero, i.size, i.bytes)) = some (some (.int .u8 0), 1, 1) := by kernel_rfl
theorem info2 : (Try.prog.info? 2).map (fun i => (i.zero, i.size, i.bytes)) = some (some (.int .i64 0), 1, 8) := by kernel_rfl

/-- The bytes of a slice of the call's own at the head of block g, capacity cap. -/
def Own (w : World) (base g cap : Nat) (xs : List Int) : Prop :=
  w.ownsRow base 5 1 (.slice (some ⟨g, 0, none⟩) xs.length cap) xs.length (xs.map (Value.int .u8))

theorem Own.push {w1 : World} {base g cap n m : Nat} {xs ys : List Int} (hn : n = xs.length) (hm : m = ys.length)
    (h : w1.ownsRow base 5 1 (.slice (some ⟨g, 0, none⟩) (n + m) cap) (n + m) (xs.map (Value.int .u8) ++ ys.map (Value.int .u8))) : Own w1 base g cap (xs ++ ys) := by
  subst hn hm
  unfold Own
  rw [List.length_append, List.map_append]
  exact h

theorem Own.at {w : World} {base g cap n : Nat} {xs : List Int} (h : Own w base g cap xs) (hn : xs.length = n) : w.ownsRow base 5 1 (.slice (some ⟨g, 0, none⟩) n cap) n (xs.map (Value.int .u8)) := by
  subst hn; exact h

/-- The cells of a piece of a row. -/
theorem cells_piece {w : World} {base e g N : Nat} {L : List Int} {q : Nat} (h : w.ownsRow base e 1 (.slice (some ⟨g, 0, none⟩) N N) N (L.map (Value.int .u8))) (hL : L.length = N) :
    ∀ j u, ((L.drop q).map (Value.int .u8))[j]? = some u → w.cell? ((⟨g, q, none⟩ : Addr).add j) = some u := by
  intro j u hu
  have hadd : (⟨g, q, none⟩ : Addr).add j = ⟨g, q + j, none⟩ := by unfold Addr.add; split <;> simp_all
  have hj : j < (L.drop q).length := by have := (List.getElem?_eq_some_iff.1 hu).1; simpa using this
  rw [List.length_drop] at hj
  rw [hadd, h.cellAt (q + j) (by omega)]
  rw [List.getElem?_map, List.getElem?_drop] at hu
  rw [List.getElem?_map]
  exact hu

theorem u64neg (v : Int) (h0 : v < 0) (h1 : -9223372036854775808 ≤ v) : IntKind.u64.wrap (-IntKind.u64.wrap v) = (((-v).toNat : Nat) : Int) := by
  rw [IntKind.wrap_u64, IntKind.wrap_u64]; omega

theorem slice39 (Bd q : Nat) (hq : q ≤ 19) (wx : World) : (Instr.sliceAt 39 (.pointer (some ⟨Bd, 0, none⟩)) (some (.int .i64 (q : Int))) none none).run Try.prog wx = .ok (.slice (some ⟨Bd, q, none⟩) (20 - q) (20 - q)) wx := by
  have ha : Try.prog.arrayLen 39 = 20 := by kernel_rfl
  rw [run_sliceAt_array_l wx 39 ⟨Bd, 0, none⟩ (by kernel_rfl) .i64 (q : Int) (by omega) (by rw [ha]; omega)]
  simp [go_sem]
  intro h
  omega

set_option maxRecDepth 100000 in
set_option maxHeartbeats 2000000 in
theorem appDec_neg (base g cap n : Nat) (xs : List Int) (v : Int) (w : World) (hv0 : v < 0) (hv1 : -9223372036854775808 ≤ v) (hn : xs.length = n) (hown : Own w base g cap xs) (hfit : n + 20 ≤ cap) :
    Calls Try.prog 11 #[.slice (some ⟨g, 0, none⟩) n cap, .int .i64 v] w fun e w' =>
      e = .returned (.slice (some ⟨g, 0, none⟩) (n + (Plain.dec v).length) cap) ∧ Own w' base g cap (xs ++ Plain.dec v) ∧ w.grownBy w' (some g) := by
  obtain ⟨i5, hi5, z50, z51, z52⟩ := info_parts info5
  have hgl := (World.ownsRow.lt hown g rfl).2
  have HW := u64neg v hv0 hv1
  obtain ⟨M, hM⟩ : ∃ M : Nat, M = (-v).toNat := ⟨_, rfl⟩
  rw [← hM] at HW
  have hM1 : M ≤ 9223372036854775808 := by omega
  have HDV : Hid (Plain.dec v = 45 :: Plain.dg M) := by show _ = _; unfold Plain.dec; rw [if_pos hv0, hM]
  have HX1 : Hid (xs.length = n) := hn
  have hM19 : M < 10000000000000000000 := by omega
  have HDL : Hid ((Plain.dg M).length ≤ 19) := Plain.dg_len M hM19
  have HMP : Hid (M < 10 ^ 20) := by show _ < _; rw [show 10 ^ 20 = 100000000000000000000 from rfl]; omega
  clear hM hM1
  go_enter Try.func11, Try.ntmps11
  go_wp2_with (first | (at_builtin; refine wpList_append_fits _ rfl (.tmp 10) (.tmp 11) 22 rfl base 5 i5 1 Try.underlying22 hi5 z51 g n cap (xs.map (Value.int .u8)) rfl ((hown.at hn).alloc _) ⟨w.heap.size, 0, none⟩ 1 1 [.int .u8 45] rfl rfl (cell_one_new _ _ _) (by intro u hu; simp at hu; subst hu; rfl) (by omega) ?_; intro w1 hown1 hgr1))
  have hg1 : w.grownBy w1 (some g) := (World.grownBy_alloc _ _ _).trans hgr1
  have ho1 : Own w1 base g cap (xs ++ [45]) := Own.push (xs := xs) (ys := [45]) (n := n) (m := 1) hn.symm rfl hown1
  obtain ⟨ys, hys⟩ : ∃ ys, ys = xs ++ [45] := ⟨_, rfl⟩
  rw [← hys] at ho1
  have HYS : Hid (ys ++ Plain.dg M = xs ++ Plain.dec v) := by show _ = _; rw [HDV.out, hys]; simp
  have HYL : Hid (ys.length = n + 1) := by show _ = _; rw [hys, List.length_append, hn]; rfl
  clear hown1 hgr1 hys
  have hgz : g < w1.heap.size := by have := hg1.size; omega
  obtain ⟨Bd, hBd⟩ : ∃ Bd, w1.heap.size = Bd := ⟨_, rfl⟩
  rw [hBd] at hgz ⊢
  have hbuf0 := World.ownsRow_lit (base := Bd) (e := 39) (size := 1) w1 #[.int .u8 0, .int .u8 0, .int .u8 0, .int .u8 0, .int .u8 0, .int .u8 0, .int .u8 0, .int .u8 0, .int .u8 0, .int .u8 0, .int .u8 0, .int .u8 0, .int .u8 0, .int .u8 0, .int .u8 0, .int .u8 0, .int .u8 0, .int .u8 0, .int .u8 0, .int .u8 0] 20 (by omega) (by decide) rfl
  rw [hBd] at hbuf0
  have hg2 : w.grownBy (w1.alloc (.cells #[.int .u8 0, .int .u8 0, .int .u8 0, .int .u8 0, .int .u8 0, .int .u8 0, .int .u8 0, .int .u8 0, .int .u8 0, .int .u8 0, .int .u8 0, .int .u8 0, .int .u8 0, .int .u8 0, .int .u8 0, .int .u8 0, .int .u8 0, .int .u8 0, .int .u8 0, .int .u8 0] 39)) (some g) := hg1.trans (World.grownBy_alloc _ _ _)
  have ho2 := ho1.alloc (.cells #[.int .u8 0, .int .u8 0, .int .u8 0, .int .u8 0, .int .u8 0, .int .u8 0, .int .u8 0, .int .u8 0, .int .u8 0, .int .u8 0, .int .u8 0, .int .u8 0, .int .u8 0, .int .u8 0, .int .u8 0, .int .u8 0, .int .u8 0, .int .u8 0, .int .u8 0, .int .u8 0] 39)
  have hBs : w.heap.size ≤ Bd := by have := hg1.size; omega
  clear ho1 hg1 hBd HW hown hn
  go_loopw [5, 7] (fun t u wr => ∃ x p : Nat, ∃ L : List Int, 1 ≤ p ∧ p ≤ 20 ∧ x < 10000000000000000000 ∧ t = .int .u64 x ∧ u = .int .i64 p ∧ Hid (x < 10 ^ p) ∧ Hid (L.length = 20) ∧ Hid (Plain.decF p x ++ L.drop p = Plain.dg M) ∧ wr.ownsRow Bd 39 1 (.slice (some ⟨Bd, 0, none⟩) 20 20) 20 (L.map (Value.int .u8)) ∧ Own wr base g cap ys ∧ w.grownBy wr (some g)) (fun _ u _ => (intOf u).toNat)
  case atStart => exact ⟨M, 20, List.replicate 20 0, by omega, by omega, hM19, rfl, rfl, HMP.out, rfl, by show _ = _; rw [List.drop_of_length_le (by simp), List.append_nil]; rfl, hbuf0, ho2, hg2⟩
  case round =>
    clear hbuf0 ho2 hg2
    obtain ⟨x, p, L, hp1, hp2, hx19, rfl, rfl, HX, HL, HE, hbuf, hown, hgr⟩ := hrel
    obtain ⟨q, hq⟩ : ∃ q, p = q + 1 := ⟨p - 1, by omega⟩
    have hqI : (p : Int) - 1 = (q : Int) := by omega
    have hq19 : q ≤ 19 := by omega
    rw [hq] at HX HE
    obtain ⟨y, hy⟩ : ∃ y, y = x % 10 := ⟨_, rfl⟩
    obtain ⟨z, hz⟩ : ∃ z, z = x / 10 := ⟨_, rfl⟩
    have hyI : (x : Int) % 10 = (y : Int) := by omega
    have hzI : (x : Int) / 10 = (z : Int) := by omega
    have hy9 : y ≤ 9 := by omega
    have hz19 : z < 10000000000000000000 := by omega
    have hold := hbuf.cellAt q (by omega)
    have hfz := hbuf.frozenAt q
    have hqL : q < L.length := by rw [HL.out]; omega
    rw [List.getElem?_map, List.getElem?_eq_getElem hqL] at hold
    simp only [Option.map_some] at hold
    obtain ⟨vv, hvv⟩ : ∃ vv, vv = L[q] := ⟨_, rfl⟩
    rw [← hvv] at hold
    have hst := hbuf.stored q (.int .u8 (48 + (y : Int)))
    rw [← List.map_set] at hst
    have hown' : Own (wr.setCell ⟨Bd, q, none⟩ (.int .u8 (48 + (y : Int)))) base g cap ys := World.ownsRow.kept hown hst.2 (.inr (by simp [Value.ownBlock]; omega))
    have hgr' : w.grownBy (wr.setCell ⟨Bd, q, none⟩ (.int .u8 (48 + (y : Int)))) (some g) := hgr.andThen hst.2 (by intro j hj; simp at hj; left; omega)
    have hbuf' := hst.1
    have HL' : Hid ((L.set q (48 + (y : Int))).length = 20) := by show _ = _; rw [List.length_set]; exact HL.out
    have hds : (L.set q (48 + (y : Int))).drop q = (48 + (y : Int)) :: L.drop (q + 1) := by
      rw [List.drop_eq_getElem_cons (by rw [List.length_set]; exact hqL), List.getElem_set_self, List.drop_set_of_lt (by omega)]
    by_cases hx10 : x < 10
    · have HE' : Hid ((L.set q (48 + (y : Int))).drop q = Plain.dg M) := by
        show _ = _
        rw [hds, ← HE.out, Plain.decF_small q x hx10, show y = x from by omega]; rfl
      have hz0 : (z : Int) = 0 := by omega
      have hzz : z = 0 := by omega
      rw [hzz] at hzI
      obtain ⟨LL, hLL⟩ : ∃ LL, LL = L.set q (48 + (y : Int)) := ⟨_, rfl⟩
      rw [← hLL] at HE' HL' hbuf'
      have hnews := cells_piece (q := q) hbuf' HL'.out
      rw [HE'.out] at hnews
      have hdl : (Plain.dg M).length = 20 - q := by rw [← HE'.out, List.length_drop, HL'.out]
      have hd19 := HDL.out
      rw [hdl] at hd19
      have hown'' := hown'.at HYL.out
      have hlm : ((Plain.dg M).map (Value.int .u8)).length = (20 - q) * 1 := by rw [List.length_map, hdl, Nat.mul_one]
      have hoc := ints_oneCell .u8 (Plain.dg M)
      have HNEWS : Hid (∀ j u, ((Plain.dg M).map (Value.int .u8))[j]? = some u → (wr.setCell ⟨Bd, q, none⟩ (.int .u8 (48 + (y : Int)))).cell? ((⟨Bd, q, none⟩ : Addr).add j) = some u) := hnews
      have HDLE : Hid ((Plain.dg M).length = 20 - q) := hdl
      clear hst hvv hown hbuf hgr hy hz hds HE HX hqL HL hq hLL hown' hnews hdl hzz hz0 HE' hbuf' HL'
      have hsl := slice39 Bd q hq19
      go_wp2_with (first | (at_builtin; refine wpList_append_fits _ rfl (.tmp 30) (.tmp 32) 22 rfl base 5 i5 1 Try.underlying22 hi5 z51 g (n + 1) cap (ys.map (Value.int .u8)) rfl hown'' ⟨Bd, q, none⟩ (20 - q) (20 - q) ((Plain.dg M).map (Value.int .u8)) rfl hlm HNEWS.out hoc (by omega) ?_; intro w2 hown2 hgr2))
      go_ret
      have ho3 := Own.push (xs := ys) (ys := Plain.dg M) HYL.out.symm HDLE.out.symm hown2
      rw [HYS.out] at ho3
      have hlen : n + (Plain.dec v).length = (n + 1) + (20 - q) := by rw [HDV.out, List.length_cons, HDLE.out]; omega
      exact ⟨by rw [hlen]; rfl, ho3, hgr'.trans hgr2⟩
    · have HE' : Hid (Plain.decF q z ++ (L.set q (48 + (y : Int))).drop q = Plain.dg M) := by
        show _ = _
        rw [hds, ← HE.out, Plain.decF_big q x hx10, ← hz, ← hy, List.append_assoc]; rfl
      have hq1 : 1 ≤ q := by
        rcases Nat.eq_zero_or_pos q with e | e
        · have := HX.out; rw [e] at this; simp at this; omega
        · exact e
      have HX' : Hid (z < 10 ^ q) := by
        have := HX.out
        rw [Nat.pow_succ] at this
        show _ < _
        omega
      have hzne : ((z : Int) == 0) = false := by simp; omega
      clear hst hvv hown hbuf hgr hy hz hds HE HX hqL HL hq hx10
      go_wp2_with fail
      go_roundw
      case rel => exact ⟨z, q, L.set q (48 + (y : Int)), hq1, by omega, hz19, rfl, rfl, HX'.out, HL'.out, HE'.out, hbuf', hown', hgr'⟩
      case measure => simp [intOf]; omega

set_option maxRecDepth 100000 in
set_option maxHeartbeats 2000000 in
theorem appDec_pos (base g cap n : Nat) (xs : List Int) (v : Int) (w : World) (hv0 : 0 ≤ v) (hv1 : v ≤ 9223372036854775807) (hn : xs.length = n) (hown : Own w base g cap xs) (hfit : n + 20 ≤ cap) :
    Calls Try.prog 11 #[.slice (some ⟨g, 0, none⟩) n cap, .int .i64 v] w fun e w' =>
      e = .returned (.slice (some ⟨g, 0, none⟩) (n + (Plain.dec v).length) cap) ∧ Own w' base g cap (xs ++ Plain.dec v) ∧ w.grownBy w' (some g) := by
  obtain ⟨i5, hi5, z50, z51, z52⟩ := info_parts info5
  have hgl := (World.ownsRow.lt hown g rfl).2
  obtain ⟨M, hM⟩ : ∃ M : Nat, M = v.toNat := ⟨_, rfl⟩
  have hM1 : M ≤ 9223372036854775807 := by omega
  have HDV : Hid (Plain.dec v = Plain.dg M) := by show _ = _; unfold Plain.dec; rw [if_neg (by omega), hM]
  have HW : IntKind.u64.wrap v = (M : Int) := by rw [IntKind.wrap_u64]; omega
  have HX1 : Hid (xs.length = n) := hn
  have hM19 : M < 10000000000000000000 := by omega
  have HDL : Hid ((Plain.dg M).length ≤ 19) := Plain.dg_len M hM19
  have HMP : Hid (M < 10 ^ 20) := by show _ < _; rw [show 10 ^ 20 = 100000000000000000000 from rfl]; omega
  clear hM hM1
  go_enter Try.func11, Try.ntmps11
  go_wp2_with fail
  have hg1 : w.grownBy w (some g) := World.grownBy.refl _ _
  have ho1 : Own w base g cap xs := hown
  obtain ⟨ys, hys⟩ : ∃ ys, ys = xs := ⟨_, rfl⟩
  rw [← hys] at ho1
  have HYS : Hid (ys ++ Plain.dg M = xs ++ Plain.dec v) := by show _ = _; rw [HDV.out, hys]
  have HYL : Hid (ys.length = n) := by show _ = _; rw [hys, hn]
  clear hys
  have hgz : g < w.heap.size := by have := hg1.size; omega
  obtain ⟨Bd, hBd⟩ : ∃ Bd, w.heap.size = Bd := ⟨_, rfl⟩
  rw [hBd] at hgz ⊢
  have hbuf0 := World.ownsRow_lit (base := Bd) (e := 39) (size := 1) w #[.int .u8 0, .int .u8 0, .int .u8 0, .int .u8 0, .int .u8 0, .int .u8 0, .int .u8 0, .int .u8 0, .int .u8 0, .int .u8 0, .int .u8 0, .int .u8 0, .int .u8 0, .int .u8 0, .int .u8 0, .int .u8 0, .int .u8 0, .int .u8 0, .int .u8 0, .int .u8 0] 20 (by omega) (by decide) rfl
  rw [hBd] at hbuf0
  have hg2 : w.grownBy (w.alloc (.cells #[.int .u8 0, .int .u8 0, .int .u8 0, .int .u8 0, .int .u8 0, .int .u8 0, .int .u8 0, .int .u8 0, .int .u8 0, .int .u8 0, .int .u8 0, .int .u8 0, .int .u8 0, .int .u8 0, .int .u8 0, .int .u8 0, .int .u8 0, .int .u8 0, .int .u8 0, .int .u8 0] 39)) (some g) := hg1.trans (World.grownBy_alloc _ _ _)
  have ho2 := ho1.alloc (.cells #[.int .u8 0, .int .u8 0, .int .u8 0, .int .u8 0, .int .u8 0, .int .u8 0, .int .u8 0, .int .u8 0, .int .u8 0, .int .u8 0, .int .u8 0, .int .u8 0, .int .u8 0, .int .u8 0, .int .u8 0, .int .u8 0, .int .u8 0, .int .u8 0, .int .u8 0, .int .u8 0] 39)
  have hBs : w.heap.size ≤ Bd := by have := hg1.size; omega
  clear ho1 hg1 hBd HW hown hn
  go_loopw [5, 7] (fun t u wr => ∃ x p : Nat, ∃ L : List Int, 1 ≤ p ∧ p ≤ 20 ∧ x < 10000000000000000000 ∧ t = .int .u64 x ∧ u = .int .i64 p ∧ Hid (x < 10 ^ p) ∧ Hid (L.length = 20) ∧ Hid (Plain.decF p x ++ L.drop p = Plain.dg M) ∧ wr.ownsRow Bd 39 1 (.slice (some ⟨Bd, 0, none⟩) 20 20) 20 (L.map (Value.int .u8)) ∧ Own wr base g cap ys ∧ w.grownBy wr (some g)) (fun _ u _ => (intOf u).toNat)
  case atStart => exact ⟨M, 20, List.replicate 20 0, by omega, by omega, hM19, rfl, rfl, HMP.out, rfl, by show _ = _; rw [List.drop_of_length_le (by simp), List.append_nil]; rfl, hbuf0, ho2, hg2⟩
  case round =>
    clear hbuf0 ho2 hg2
    obtain ⟨x, p, L, hp1, hp2, hx19, rfl, rfl, HX, HL, HE, hbuf, hown, hgr⟩ := hrel
    obtain ⟨q, hq⟩ : ∃ q, p = q + 1 := ⟨p - 1, by omega⟩
    have hqI : (p : Int) - 1 = (q : Int) := by omega
    have hq19 : q ≤ 19 := by omega
    rw [hq] at HX HE
    obtain ⟨y, hy⟩ : ∃ y, y = x % 10 := ⟨_, rfl⟩
    obtain ⟨z, hz⟩ : ∃ z, z = x / 10 := ⟨_, rfl⟩
    have hyI : (x : Int) % 10 = (y : Int) := by omega
    have hzI : (x : Int) / 10 = (z : Int) := by omega
    have hy9 : y ≤ 9 := by omega
    have hz19 : z < 10000000000000000000 := by omega
    have hold := hbuf.cellAt q (by omega)
    have hfz := hbuf.frozenAt q
    have hqL : q < L.length := by rw [HL.out]; omega
    rw [List.getElem?_map, List.getElem?_eq_getElem hqL] at hold
    simp only [Option.map_some] at hold
    obtain ⟨vv, hvv⟩ : ∃ vv, vv = L[q] := ⟨_, rfl⟩
    rw [← hvv] at hold
    have hst := hbuf.stored q (.int .u8 (48 + (y : Int)))
    rw [← List.map_set] at hst
    have hown' : Own (wr.setCell ⟨Bd, q, none⟩ (.int .u8 (48 + (y : Int)))) base g cap ys := World.ownsRow.kept hown hst.2 (.inr (by simp [Value.ownBlock]; omega))
    have hgr' : w.grownBy (wr.setCell ⟨Bd, q, none⟩ (.int .u8 (48 + (y : Int)))) (some g) := hgr.andThen hst.2 (by intro j hj; simp at hj; left; omega)
    have hbuf' := hst.1
    have HL' : Hid ((L.set q (48 + (y : Int))).length = 20) := by show _ = _; rw [List.length_set]; exact HL.out
    have hds : (L.set q (48 + (y : Int))).drop q = (48 + (y : Int)) :: L.drop (q + 1) := by
      rw [List.drop_eq_getElem_cons (by rw [List.length_set]; exact hqL), List.getElem_set_self, List.drop_set_of_lt (by omega)]
    by_cases hx10 : x < 10
    · have HE' : Hid ((L.set q (48 + (y : Int))).drop q = Plain.dg M) := by
        show _ = _
        rw [hds, ← HE.out, Plain.decF_small q x hx10, show y = x from by omega]; rfl
      have hz0 : (z : Int) = 0 := by omega
      have hzz : z = 0 := by omega
      rw [hzz] at hzI
      obtain ⟨LL, hLL⟩ : ∃ LL, LL = L.set q (48 + (y : Int)) := ⟨_, rfl⟩
      rw [← hLL] at HE' HL' hbuf'
      have hnews := cells_piece (q := q) hbuf' HL'.out
      rw [HE'.out] at hnews
      have hdl : (Plain.dg M).length = 20 - q := by rw [← HE'.out, List.length_drop, HL'.out]
      have hd19 := HDL.out
      rw [hdl] at hd19
      have hown'' := hown'.at HYL.out
      have hlm : ((Plain.dg M).map (Value.int .u8)).length = (20 - q) * 1 := by rw [List.length_map, hdl, Nat.mul_one]
      have hoc := ints_oneCell .u8 (Plain.dg M)
      have HNEWS : Hid (∀ j u, ((Plain.dg M).map (Value.int .u8))[j]? = some u → (wr.setCell ⟨Bd, q, none⟩ (.int .u8 (48 + (y : Int)))).cell? ((⟨Bd, q, none⟩ : Addr).add j) = some u) := hnews
      have HDLE : Hid ((Plain.dg M).length = 20 - q) := hdl
      clear hst hvv hown hbuf hgr hy hz hds HE HX hqL HL hq hLL hown' hnews hdl hzz hz0 HE' hbuf' HL'
      have hsl := slice39 Bd q hq19
      go_wp2_with (first | (at_builtin; refine wpList_append_fits _ rfl (.tmp 30) (.tmp 32) 22 rfl base 5 i5 1 Try.underlying22 hi5 z51 g n cap (ys.map (Value.int .u8)) rfl hown'' ⟨Bd, q, none⟩ (20 - q) (20 - q) ((Plain.dg M).map (Value.int .u8)) rfl hlm HNEWS.out hoc (by omega) ?_; intro w2 hown2 hgr2))
      go_ret
      have ho3 := Own.push (xs := ys) (ys := Plain.dg M) HYL.out.symm HDLE.out.symm hown2
      rw [HYS.out] at ho3
      have hlen : n + (Plain.dec v).length = n + (20 - q) := by rw [HDV.out, HDLE.out]
      exact ⟨by rw [hlen]; rfl, ho3, hgr'.trans hgr2⟩
    · have HE' : Hid (Plain.decF q z ++ (L.set q (48 + (y : Int))).drop q = Plain.dg M) := by
        show _ = _
        rw [hds, ← HE.out, Plain.decF_big q x hx10, ← hz, ← hy, List.append_assoc]; rfl
      have hq1 : 1 ≤ q := by
        rcases Nat.eq_zero_or_pos q with e | e
        · have := HX.out; rw [e] at this; simp at this; omega
        · exact e
      have HX' : Hid (z < 10 ^ q) := by
        have := HX.out
        rw [Nat.pow_succ] at this
        show _ < _
        omega
      have hzne : ((z : Int) == 0) = false := by simp; omega
      clear hst hvv hown hbuf hgr hy hz hds HE HX hqL HL hq hx10
      go_wp2_with fail
      go_roundw
      case rel => exact ⟨z, q, L.set q (48 + (y : Int)), hq1, by omega, hz19, rfl, rfl, HX'.out, HL'.out, HE'.out, hbuf', hown', hgr'⟩
      case measure => simp [intOf]; omega

end Go.Proofs.Qxb6001245a
