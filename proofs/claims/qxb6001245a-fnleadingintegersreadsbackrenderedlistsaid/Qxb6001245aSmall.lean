/-
  THE WALKS of cloneBytes, cloneInt64s, isJSONSpace, zzBytes, ZZLeadingIntegers.
-/
import Derived.Test.Qxb6001245aList
import Derived.Lib.SliceRun
import Derived.Laws.OwnMore
namespace Go.Proofs.Qxb6001245a
open Go.RowKit

def SomeBool (e : Ending) : Prop := ∃ r : Bool, e = .returned (.bool r)
theorem SomeBool.no : SomeBool (.returned (.bool false)) := ⟨_, rfl⟩
theorem SomeBool.yes : SomeBool (.returned (.bool true)) := ⟨_, rfl⟩

/-- The numbers of a slice (which may be nil where it is empty). -/
def Tl (K : IntKind) (w : World) (a : Option Addr) (tl : List Int) : Prop :=
  ∀ k, k < tl.length → ∃ b o, a = some ⟨b, o, none⟩ ∧ ∀ i, i < tl.length → w.cell? ⟨b, o + i, none⟩ = some (.int K (tl.getD i 0))

theorem Tl.kept {K : IntKind} {w w' : World} {a : Option Addr} {tl : List Int} (h : Tl K w a tl) (g : w.grownBy w' none) : Tl K w' a tl := by
  intro k hk
  obtain ⟨b, o, h1, h2⟩ := h k hk
  exact ⟨b, o, h1, fun i hi => g.cell (h2 i hi) (by simp)⟩

theorem Tl.news {K : IntKind} {w : World} {a : Option Addr} {tl : List Int} (h : Tl K w a tl) : ∀ ad, a = some ad → ∀ j u, (tl.map (Value.int K))[j]? = some u → w.cell? (ad.add j) = some u := by
  intro ad had j u hu
  have hj : j < tl.length := by have := (List.getElem?_eq_some_iff.1 hu).1; simpa using this
  obtain ⟨b, o, h1, h2⟩ := h j hj
  rw [had] at h1
  injection h1 with h1
  subst h1
  have hadd : (⟨b, o, none⟩ : Addr).add j = ⟨b, o + j, none⟩ := by unfold Addr.add; split <;> simp_all
  rw [hadd, h2 j hj, ← hu, List.getElem?_map, List.getElem?_eq_getElem hj, List.getD_eq_getElem?_getD, List.getElem?_eq_getElem hj]
  rfl

theorem getD_ext {l m : List Int} (hl : l.length = m.length) (h : ∀ i, i < l.length → l.getD i 0 = m.getD i 0) : l = m := by
  apply List.ext_getElem hl
  intro i h1 h2
  have := h i h1
  rw [List.getD_eq_getElem?_getD, List.getD_eq_getElem?_getD, List.getElem?_eq_getElem h1, List.getElem?_eq_getElem h2] at this
  exact this

set_option maxHeartbeats 1000000 in
theorem clone8 (a : Option Addr) (n c : Nat) (tl : List Int) (w : World) (hn : tl.length = n) (hmax : n ≤ 1073741824) (ht : Tl .u8 w a tl) (hnone : a = none → n = 0 ∧ c = 0) :
    Calls Try.prog 10 #[.slice a n c] w fun e w' => ∃ a' c', e = .returned (.slice a' n c') ∧ Tl .u8 w' a' tl ∧ (a' = none → n = 0 ∧ c' = 0) ∧ w.grownBy w' none := by
  obtain ⟨ie, hie, ze0, ze1, ze2⟩ := info_parts info5
  cases a with
  | none =>
    obtain ⟨h0, hc0⟩ := hnone rfl
    subst h0 hc0
    have hnil : ∀ w, (binOp .eql 22 (.slice none 0 0) (.slice none 0 0)).run Try.prog w = .ok (.bool true) w := fun w => Lib.run_eql_slice_nil (P := Try.prog) w 22 5 none 0 0 0 0 Try.underlying22
    clear hnone
    go_enter Try.func10, Try.ntmps10
    go_wp2_with fail
    go_ret
    exact ⟨none, 0, rfl, ht, by simp, World.grownBy.refl _ _⟩
  | some x =>
    obtain ⟨b, o, sp⟩ := x
    have hnil : ∀ w, (binOp .eql 22 (.slice (some ⟨b, o, sp⟩) n c) (.slice none 0 0)).run Try.prog w = .ok (.bool false) w := fun w => Lib.run_eql_slice_nil (P := Try.prog) w 22 5 (some ⟨b, o, sp⟩) n c 0 0 Try.underlying22
    have HT : Hid (Tl .u8 w (some ⟨b, o, sp⟩) tl) := ht
    have HN : Hid (tl.length = n) := hn
    clear hnone ht hn
    go_enter Try.func10, Try.ntmps10
    go_wp2_with (at_make; refine wpList_make_full _ rfl (.tmp 8) (.tmp 8) 22 rfl w.heap.size 5 ie (.int .u8 0) 1 Try.underlying22 hie ze0 ze1 .i64 .i64 _ _ n rfl rfl (by omega) (by omega) (by rw [ze2]; omega) (by unfold maxLen; omega) (by omega) ?_; intro w1 hown1 hgr1)
    rw [Nat.mul_one, show (Value.int IntKind.u8 0).cells = #[.int .u8 0] from rfl, toList_madeCells_one] at hown1
    go_loopw [4] (fun u wr => ∃ k : Nat, ∃ L : List Int, k ≤ n ∧ u = .int .i64 k ∧ Hid (L.length = n) ∧ Hid (∀ i, i < k → L.getD i 0 = tl.getD i 0) ∧ wr.ownsRow w.heap.size 5 1 (.slice (some ⟨w.heap.size, 0, none⟩) n n) n (L.map (Value.int .u8)) ∧ w.grownBy wr none) (fun u _ => n - (intOf u).toNat)
    case atStart => exact ⟨0, List.replicate n 0, by omega, rfl, by show _ = _; simp, fun i hi => by omega, by simpa using hown1, hgr1⟩
    case round =>
      clear hown1 hgr1
      obtain ⟨k, L, hk, rfl, HL, HC, hown, hgr⟩ := hrel
      by_cases hlt : k < n
      · obtain ⟨b', o', hx, hcell0⟩ := HT.out k (by rw [HN.out]; exact hlt)
        injection hx with hx1
        injection hx1 with hb ho hs
        have hcell := hgr.cell (hcell0 k (by rw [HN.out]; exact hlt)) (by simp)
        rw [← hb, ← ho] at hcell
        clear hb ho hcell0
        subst hs
        have hold := hown.cellAt k (by omega)
        have hfz := hown.frozenAt k
        have hkL : k < L.length := by rw [HL.out]; exact hlt
        rw [List.getElem?_map, List.getElem?_eq_getElem hkL] at hold
        simp only [Option.map_some] at hold
        obtain ⟨x, hx⟩ : ∃ x, x = tl.getD k 0 := ⟨_, rfl⟩
        obtain ⟨v, hv⟩ : ∃ v, v = L[k] := ⟨_, rfl⟩
        rw [← hx] at hcell
        rw [← hv] at hold
        have hst := hown.stored k (.int .u8 x)
        rw [← List.map_set] at hst
        have hgr' : w.grownBy (wr.setCell ⟨w.heap.size, k, none⟩ (.int .u8 x)) none := hgr.andThen hst.2 (by intro j hj; simp at hj; left; omega)
        have HC' : Hid (∀ i, i < k + 1 → (L.set k x).getD i 0 = tl.getD i 0) := by
          intro i hi
          rw [List.getD_eq_getElem?_getD, List.getElem?_set]
          by_cases e : k = i
          · subst e
            rw [if_pos rfl, if_pos hkL, hx]; rfl
          · rw [if_neg e, ← List.getD_eq_getElem?_getD]
            exact HC.out i (by omega)
        have hown' := hst.1
        clear hst hx hv hown hgr hkL HC
        go_wp2_with fail
        go_roundw
        case rel => exact ⟨k + 1, L.set k x, by omega, by go_num, by show _ = _; rw [List.length_set]; exact HL.out, HC'.out, hown', hgr'⟩
        case measure => simp [intOf]; omega
      · have hLe : L = tl := getD_ext (by rw [HL.out, HN.out]) (fun i hi => HC.out i (by rw [HL.out] at hi; omega))
        rw [hLe] at hown
        have hkn : k = n := by omega
        clear HC
        go_wp2_with fail
        go_ret
        refine ⟨_, _, rfl, fun j hj => ⟨w.heap.size, 0, rfl, fun i hi => ?_⟩, (by intro h; cases h), hgr⟩
        have := hown.cellAt i (by rw [HN.out] at hi; omega)
        rw [Nat.zero_add, this, List.getElem?_map, List.getElem?_eq_getElem hi, List.getD_eq_getElem?_getD, List.getElem?_eq_getElem hi]
        rfl

set_option maxHeartbeats 1000000 in
theorem clone64 (a : Option Addr) (n c : Nat) (tl : List Int) (w : World) (hn : tl.length = n) (hmax : n ≤ 1073741824) (ht : Tl .i64 w a tl) (hnone : a = none → n = 0 ∧ c = 0) :
    Calls Try.prog 18 #[.slice a n c] w fun e w' => ∃ a' c', e = .returned (.slice a' n c') ∧ Tl .i64 w' a' tl ∧ (a' = none → n = 0 ∧ c' = 0) ∧ w.grownBy w' none := by
  obtain ⟨ie, hie, ze0, ze1, ze2⟩ := info_parts info2
  cases a with
  | none =>
    obtain ⟨h0, hc0⟩ := hnone rfl
    subst h0 hc0
    have hnil : ∀ w, (binOp .eql 32 (.slice none 0 0) (.slice none 0 0)).run Try.prog w = .ok (.bool true) w := fun w => Lib.run_eql_slice_nil (P := Try.prog) w 32 2 none 0 0 0 0 Try.underlying32
    clear hnone
    go_enter Try.func18, Try.ntmps18
    go_wp2_with fail
    go_ret
    exact ⟨none, 0, rfl, ht, by simp, World.grownBy.refl _ _⟩
  | some x =>
    obtain ⟨b, o, sp⟩ := x
    have hnil : ∀ w, (binOp .eql 32 (.slice (some ⟨b, o, sp⟩) n c) (.slice none 0 0)).run Try.prog w = .ok (.bool false) w := fun w => Lib.run_eql_slice_nil (P := Try.prog) w 32 2 (some ⟨b, o, sp⟩) n c 0 0 Try.underlying32
    have HT : Hid (Tl .i64 w (some ⟨b, o, sp⟩) tl) := ht
    have HN : Hid (tl.length = n) := hn
    clear hnone ht hn
    go_enter Try.func18, Try.ntmps18
    go_wp2_with (at_make; refine wpList_make_full _ rfl (.tmp 8) (.tmp 8) 32 rfl w.heap.size 2 ie (.int .i64 0) 1 Try.underlying32 hie ze0 ze1 .i64 .i64 _ _ n rfl rfl (by omega) (by omega) (by rw [ze2]; omega) (by unfold maxLen; omega) (by omega) ?_; intro w1 hown1 hgr1)
    rw [Nat.mul_one, show (Value.int IntKind.i64 0).cells = #[.int .i64 0] from rfl, toList_madeCells_one] at hown1
    go_loopw [4] (fun u wr => ∃ k : Nat, ∃ L : List Int, k ≤ n ∧ u = .int .i64 k ∧ Hid (L.length = n) ∧ Hid (∀ i, i < k → L.getD i 0 = tl.getD i 0) ∧ wr.ownsRow w.heap.size 2 1 (.slice (some ⟨w.heap.size, 0, none⟩) n n) n (L.map (Value.int .i64)) ∧ w.grownBy wr none) (fun u _ => n - (intOf u).toNat)
    case atStart => exact ⟨0, List.replicate n 0, by omega, rfl, by show _ = _; simp, fun i hi => by omega, by simpa using hown1, hgr1⟩
    case round =>
      clear hown1 hgr1
      obtain ⟨k, L, hk, rfl, HL, HC, hown, hgr⟩ := hrel
      by_cases hlt : k < n
      · obtain ⟨b', o', hx, hcell0⟩ := HT.out k (by rw [HN.out]; exact hlt)
        injection hx with hx1
        injection hx1 with hb ho hs
        have hcell := hgr.cell (hcell0 k (by rw [HN.out]; exact hlt)) (by simp)
        rw [← hb, ← ho] at hcell
        clear hb ho hcell0
        subst hs
        have hold := hown.cellAt k (by omega)
        have hfz := hown.frozenAt k
        have hkL : k < L.length := by rw [HL.out]; exact hlt
        rw [List.getElem?_map, List.getElem?_eq_getElem hkL] at hold
        simp only [Option.map_some] at hold
        obtain ⟨x, hx⟩ : ∃ x, x = tl.getD k 0 := ⟨_, rfl⟩
        obtain ⟨v, hv⟩ : ∃ v, v = L[k] := ⟨_, rfl⟩
        rw [← hx] at hcell
        rw [← hv] at hold
        have hst := hown.stored k (.int .i64 x)
        rw [← List.map_set] at hst
        have hgr' : w.grownBy (wr.setCell ⟨w.heap.size, k, none⟩ (.int .i64 x)) none := hgr.andThen hst.2 (by intro j hj; simp at hj; left; omega)
        have HC' : Hid (∀ i, i < k + 1 → (L.set k x).getD i 0 = tl.getD i 0) := by
          intro i hi
          rw [List.getD_eq_getElem?_getD, List.getElem?_set]
          by_cases e : k = i
          · subst e
            rw [if_pos rfl, if_pos hkL, hx]; rfl
          · rw [if_neg e, ← List.getD_eq_getElem?_getD]
            exact HC.out i (by omega)
        have hown' := hst.1
        clear hst hx hv hown hgr hkL HC
        go_wp2_with fail
        go_roundw
        case rel => exact ⟨k + 1, L.set k x, by omega, by go_num, by show _ = _; rw [List.length_set]; exact HL.out, HC'.out, hown', hgr'⟩
        case measure => simp [intOf]; omega
      · have hLe : L = tl := getD_ext (by rw [HL.out, HN.out]) (fun i hi => HC.out i (by rw [HL.out] at hi; omega))
        rw [hLe] at hown
        have hkn : k = n := by omega
        clear HC
        go_wp2_with fail
        go_ret
        refine ⟨_, _, rfl, fun j hj => ⟨w.heap.size, 0, rfl, fun i hi => ?_⟩, (by intro h; cases h), hgr⟩
        have := hown.cellAt i (by rw [HN.out] at hi; omega)
        rw [Nat.zero_add, this, List.getElem?_map, List.getElem?_eq_getElem hi, List.getD_eq_getElem?_getD, List.getElem?_eq_getElem hi]
        rfl

theorem zz16 (a0 : Option Addr) (n0 c0 : Nat) (a1 : Option Addr) (n1 c1 : Nat) (a2 : Option Addr) (n2 c2 : Nat) (a3 : Option Addr) (n3 c3 : Nat) (w : World) (b0 : n0 ≤ 9223372036854775807) (b1 : n1 ≤ 9223372036854775807) (b2 : n2 ≤ 9223372036854775807) (b3 : n3 ≤ 9223372036854775807) :
    Calls Try.prog 16 #[.slice a0 n0 c0, .slice a1 n1 c1, .slice a2 n2 c2, .slice a3 n3 c3] w fun e w' => SomeBool e ∧ w' = w := by
  by_cases g0 : n0 ≤ 1048576
  · skip
    by_cases g1 : n1 ≤ 1048576
    · skip
      by_cases g2 : n0 + n1 ≤ 1048576
      · skip
        by_cases g3 : n2 ≤ 1048576
        · skip
          by_cases g4 : n0 + n1 + n2 ≤ 1048576
          · skip
            by_cases g5 : n3 ≤ 1048576
            · skip
              by_cases g6 : n0 + n1 + n2 + n3 ≤ 1048576
              · skip
                go_enter Try.func16, Try.ntmps16
                go_wp2
                go_ret
                exact ⟨by first | exact SomeBool.no | exact SomeBool.yes, rfl⟩
              · skip
                go_enter Try.func16, Try.ntmps16
                go_wp2
                go_ret
                exact ⟨by first | exact SomeBool.no | exact SomeBool.yes, rfl⟩
            · skip
              go_enter Try.func16, Try.ntmps16
              go_wp2
              go_ret
              exact ⟨by first | exact SomeBool.no | exact SomeBool.yes, rfl⟩
          · skip
            go_enter Try.func16, Try.ntmps16
            go_wp2
            go_ret
            exact ⟨by first | exact SomeBool.no | exact SomeBool.yes, rfl⟩
        · skip
          go_enter Try.func16, Try.ntmps16
          go_wp2
          go_ret
          exact ⟨by first | exact SomeBool.no | exact SomeBool.yes, rfl⟩
      · skip
        go_enter Try.func16, Try.ntmps16
        go_wp2
        go_ret
        exact ⟨by first | exact SomeBool.no | exact SomeBool.yes, rfl⟩
    · skip
      go_enter Try.func16, Try.ntmps16
      go_wp2
      go_ret
      exact ⟨by first | exact SomeBool.no | exact SomeBool.yes, rfl⟩
  · skip
    go_enter Try.func16, Try.ntmps16
    go_wp2
    go_ret
    exact ⟨by first | exact SomeBool.no | exact SomeBool.yes, rfl⟩

theorem isSpace_yes (z : Int) (w : World) (h : Plain.spc z) : Calls Try.prog 17 #[.int .u8 z] w fun e w' => e = .returned (.bool true) ∧ w' = w := by
  unfold Plain.spc at h
  rcases h with rfl | rfl | rfl | rfl
  all_goals
    go_enter Try.func17, Try.ntmps17
    go_wp2
    go_ret
    exact ⟨rfl, rfl⟩
theorem isSpace_no (z : Int) (w : World) (h : ¬ Plain.spc z) : Calls Try.prog 17 #[.int .u8 z] w fun e w' => e = .returned (.bool false) ∧ w' = w := by
  unfold Plain.spc at h
  have h1 : (z == 32) = false := by simp; omega
  have h2 : (z == 9) = false := by simp; omega
  have h3 : (z == 10) = false := by simp; omega
  have h4 : (z == 13) = false := by simp; omega
  clear h
  go_enter Try.func17, Try.ntmps17
  go_wp2
  go_ret
  exact ⟨rfl, rfl⟩

theorem leadList_any (b o n c i : Nat) (zs g t xs : List Int) (hxs : ∀ y ∈ xs, -9223372036854775808 ≤ y ∧ y ≤ 9223372036854775807) (w : World) (hn : zs.length = n) (hmax : n ≤ 1073741824) (h : Txt w b o zs) (hi : i ≤ n) (hc : n ≤ c) (hd : zs.drop i = 91 :: (g ++ Plain.fst g t xs)) (hg : ∀ x ∈ g, Plain.spc x) :
    Calls Try.prog 23 #[.slice (some ⟨b, o, none⟩) n c, .int .i64 i] w fun e w' => ∃ v, e = .returned (.tuple #[v, .int .i64 ((n - t.length : Nat) : Int), .bool true]) ∧ OwnL w' w.heap.size v xs.length xs ∧ w.grownBy w' none := by
  cases xs with
  | nil => exact leadList_nil b o n c i zs g t w hn hmax h hi hc hd hg
  | cons x r => exact leadList_cons b o n c i zs g t x r hxs w hn hmax h hi hc hd hg

theorem zzList (b o n c i : Nat) (zs g t xs : List Int) (hxs : ∀ y ∈ xs, -9223372036854775808 ≤ y ∧ y ≤ 9223372036854775807) (w : World) (hn : zs.length = n) (hmax : n ≤ 1073741824) (h : Txt w b o zs) (hi : i ≤ n) (hc : n ≤ c) (hd : zs.drop i = 91 :: (g ++ Plain.fst g t xs)) (hg : ∀ x ∈ g, Plain.spc x) :
    Calls Try.prog 19 #[.slice (some ⟨b, o, none⟩) n c, .int .i64 i] w fun e w' => ∃ G C, e = .returned (.tuple #[.slice (some ⟨G, 0, none⟩) xs.length C, .int .i64 ((n - t.length : Nat) : Int), .bool true]) ∧ Tl .i64 w' (some ⟨G, 0, none⟩) xs ∧ w.grownBy w' none := by
  have C1 := leadList_any b o n c i zs g t xs hxs w hn hmax h hi hc hd hg
  clear hd hg h hn hxs hmax hi hc
  go_enter Try.func19, Try.ntmps19
  go_wp2_with fail
  refine C1.mono ?_
  rintro e w1 ⟨v, rfl, ⟨hown, hnn⟩, hgr⟩
  clear C1
  rcases hown.2 with ⟨hv, _⟩ | ⟨G, C, cur, hv, _⟩
  · exact absurd hv hnn
  · rw [hv] at hown ⊢
    clear hv hnn
    go_wp2_with fail
    go_ret3
    refine ⟨G, C, rfl, fun j hj => ⟨G, 0, rfl, fun i hi => ?_⟩, hgr⟩
    have := hown.cellAt i (by omega)
    rw [Nat.zero_add, this, List.getElem?_map, List.getElem?_eq_getElem hi, List.getD_eq_getElem?_getD, List.getElem?_eq_getElem hi]
    rfl

end Go.Proofs.Qxb6001245a
