/-
  THE WALKS of bytes.IndexByte, stringSize, isSpace, valueSize.
-/
import Derived.Test.Qxb6000722aRows
import Derived.Test.Qxb6000722aShelf
import Derived.Test.Qxb6000722aPlain
import Derived.Lib.IndexLaws
import Derived.WalkKit
import Derived.WalkSpells
import Derived.WalkLawsBesides
namespace Go.Proofs.Qxb6000722a
open Go.RowKit

theorem ret_int {k : IntKind} {a b : Int} (h : a = b) : Ending.returned (.int k a) = .returned (.int k b) := by rw [h]

/-- The bytes zs lie from place o of block b on. -/
def Txt (w : World) (b o : Nat) (zs : List Int) : Prop :=
  (∀ i, i < zs.length → w.cell? ⟨b, o + i, none⟩ = some (.int .u8 (zs.getD i 0))) ∧ ∀ i, 0 ≤ zs.getD i 0 ∧ zs.getD i 0 ≤ 255

theorem getD_drop (zs : List Int) (k i : Nat) : (zs.drop k).getD i 0 = zs.getD (k + i) 0 := by
  simp [List.getD_eq_getElem?_getD, List.getElem?_drop]

theorem Txt.drop {w : World} {b o : Nat} {zs : List Int} (h : Txt w b o zs) (k : Nat) : Txt w b (o + k) (zs.drop k) := by
  refine ⟨fun i hi => ?_, fun i => ?_⟩
  · rw [getD_drop, Nat.add_assoc]
    exact h.1 (k + i) (by simp at hi; omega)
  · rw [getD_drop]; exact h.2 _

theorem ofNat_inj {a c : Int} (ha : 0 ≤ a ∧ a ≤ 255) (hc : 0 ≤ c ∧ c ≤ 255) (h : UInt8.ofNat a.toNat = c.toNat.toUInt8) : a = c := by
  have := congrArg UInt8.toNat h
  simp at this
  omega

theorem bytesOf_get (zs : List Int) (k : Nat) (hk : k < zs.length) : (Lib.bytesOf zs)[k]? = some (UInt8.ofNat (zs.getD k 0).toNat) := by
  unfold Lib.bytesOf
  rw [List.getElem?_map, List.getElem?_eq_getElem hk, List.getD_eq_getElem?_getD, List.getElem?_eq_getElem hk]
  rfl

/-- bytes.IndexByte in plain words. -/
theorem indexByte_plain (zs : List Int) (c : Int) (hz : ∀ i, 0 ≤ zs.getD i 0 ∧ zs.getD i 0 ≤ 255) (hc : 0 ≤ c ∧ c ≤ 255) :
    (Lib.indexByte (Lib.bytesOf zs) c.toNat.toUInt8 = -1 ∧ ∀ i, i < zs.length → zs.getD i 0 ≠ c) ∨
    ∃ i : Nat, Lib.indexByte (Lib.bytesOf zs) c.toNat.toUInt8 = (i : Int) ∧ i < zs.length ∧ zs.getD i 0 = c ∧ ∀ j, j < i → zs.getD j 0 ≠ c := by
  have hge := Lib.indexByte_ge (Lib.bytesOf zs) c.toNat.toUInt8
  by_cases h : Lib.indexByte (Lib.bytesOf zs) c.toNat.toUInt8 = -1
  · left
    refine ⟨h, fun i hi e => ?_⟩
    have := Lib.indexByte_none h i
    rw [bytesOf_get zs i hi, e] at this
    exact this rfl
  · right
    obtain ⟨o, ho⟩ : ∃ o : Nat, Lib.indexByte (Lib.bytesOf zs) c.toNat.toUInt8 = (o : Int) := ⟨(Lib.indexByte (Lib.bytesOf zs) c.toNat.toUInt8).toNat, by omega⟩
    obtain ⟨h1, h2⟩ := Lib.indexByte_some ho
    have hol : o < zs.length := by
      have := (List.getElem?_eq_some_iff.1 h1).1
      simpa [Lib.bytesOf] using this
    refine ⟨o, ho, hol, ?_, fun j hj e => ?_⟩
    · rw [bytesOf_get zs o hol] at h1
      exact ofNat_inj (hz o) hc (by simpa using h1)
    · have := h2 j hj
      rw [bytesOf_get zs j (by omega), e] at this
      exact this rfl

/-- The call of bytes.IndexByte, where the byte is there. -/
theorem indexByte_hit (b o n c : Nat) (zs : List Int) (w : World) (hn : zs.length = n) (h : Txt w b o zs) (q : Nat) (hq : q < n) (h34 : zs.getD q 0 = 34) :
    Calls Try.prog 42 #[.slice (some ⟨b, o, none⟩) n c, .int .u8 34] w fun e w' => (∃ i : Nat, e = .returned (.int .i64 i) ∧ i ≤ q ∧ zs.getD i 0 = 34) ∧ w' = w := by
  refine (Try.bytes_IndexByte b o n c zs 34 w hn (fun i hi => h.1 i (by omega))).mono ?_
  rintro e w' ⟨rfl, rfl⟩
  refine ⟨?_, rfl⟩
  rcases indexByte_plain zs 34 h.2 (by decide) with ⟨_, hno⟩ | ⟨i, hi, _, h1, h2⟩
  · exact absurd h34 (hno q (by omega))
  · exact ⟨i, by rw [hi], Nat.le_of_not_lt fun hlt => h2 q hlt h34, h1⟩

set_option maxHeartbeats 400000 in
theorem stringSize_any (b o n c : Nat) (zs : List Int) (m : Nat) (w : World) (hn : zs.length = n) (hnc : n ≤ c) (hmax : n ≤ 1073741824) (h : Txt w b o zs) (hm : m < n) (hq : zs.getD m 0 = 34)
    (hev : Plain.back zs m % 2 = 0) (hodd : ∀ q, q < m → zs.getD q 0 = 34 → Plain.back zs q % 2 = 1) :
    Calls Try.prog 39 #[.slice (some ⟨b, o, none⟩) n c] w fun e w' => e = .returned (.int .i64 (m + 1 : Nat)) ∧ w' = w := by
  go_enter Try.func39, Try.ntmps39
  go_wp2_with fail
  go_loop [3] (fun t => ∃ k : Nat, k ≤ m ∧ t = .int .i64 k) (fun t => n - (intOf t).toNat)
  case atStart => exact ⟨0, Nat.zero_le _, rfl⟩
  case round =>
    obtain ⟨k, hk, rfl⟩ := hrel
    go_wp2_with fail
    refine (indexByte_hit b (o + k) (n - k) (c - k) (zs.drop k) w (by simp; omega) (h.drop k) (m - k) (by omega) (by rw [getD_drop]; rw [show k + (m - k) = m from by omega]; exact hq)).mono ?_
    rintro e w' ⟨⟨i, rfl, hi, hi34⟩, hw'⟩
    subst hw'
    rw [getD_drop] at hi34
    have hbe := Plain.back_end zs (k + i) (by omega)
    have hbh := Plain.back_hit zs (k + i)
    have HB : Hid (∀ j, j < Plain.back zs (k + i) → zs.getD (k + i - 1 - j) 0 = 92) := fun j hj => (hbh j (by omega) hj).2
    obtain ⟨B, hB⟩ : ∃ B, B = Plain.back zs (k + i) := ⟨_, rfl⟩
    rw [← hB] at hbe HB
    have HN : Hid (B < k + i → zs.getD (k + i - 1 - B) 0 ≠ 92) := hbe.2
    have HBB : Hid (B = Plain.back zs (k + i)) := hB
    have hble := hbe.1
    have H34 : Hid (zs.getD (k + i) 0 = 34) := hi34
    have HODD : Hid (∀ q, q < m → zs.getD q 0 = 34 → Plain.back zs q % 2 = 1) := hodd
    have HEV : Hid (Plain.back zs m % 2 = 0) := hev
    have HQ : Hid (zs.getD m 0 = 34) := hq
    have HN' : Hid (zs.length = n) := hn
    clear hB hbe hbh hi34 hodd hev hq hn
    go_wp2_with fail
    go_loop [5] (fun t => ∃ j : Nat, j ≤ B ∧ t = .int .i64 j) (fun t => B - (intOf t).toNat)
    case atStart => exact ⟨0, Nat.zero_le _, rfl⟩
    case round =>
      obtain ⟨j, hj, rfl⟩ := hrel
      by_cases hjB : j < B
      · have hcell := h.1 (k + i - 1 - j) (by rw [HN'.out]; omega)
        rw [HB.out j hjB, show k + i - 1 - j = k + (i + 1) - 2 - j from by omega] at hcell
        go_wp2_with fail
        go_round
        case rel => exact ⟨j + 1, by omega, by go_num⟩
        case measure => simp [intOf]; omega
      · have hjB' : j = B := by omega
        have hcell := h.1 (k + i - 1 - j) 
        have hne := HN.out
        rw [← hjB'] at hne
        have hbd := h.2 (k + i - 1 - j)
        rw [show k + i - 1 - j = k + (i + 1) - 2 - j from by omega] at hcell hne hbd
        obtain ⟨x, hx⟩ : ∃ x, x = zs.getD (k + (i + 1) - 2 - j) 0 := ⟨_, rfl⟩
        rw [← hx] at hcell hne hbd
        have HJ : Hid (j = B) := hjB'
        clear hx hjB' hjB
        have hpar : (j % 2 = 0 ∧ k + i = m) ∨ (j % 2 = 1 ∧ k + i < m) := by
          have e1 := HBB.out
          rw [← HJ.out] at e1
          rcases Nat.lt_or_ge (k + i) m with g | g
          · right; exact ⟨by rw [e1]; exact HODD.out _ g H34.out, g⟩
          · left
            have e2 : k + i = m := by omega
            refine ⟨?_, e2⟩
            rw [e1, e2]
            exact HEV.out
        by_cases hlt : j < k + i
        · have hcell' := hcell (by rw [HN'.out]; omega)
          have hx92 : (x == 92) = false := by simp; exact hne hlt
          clear hcell hne
          rcases hpar with ⟨hp, hkm⟩ | ⟨hp, hkm⟩
          · have HK : Hid (k + i = m) := hkm
            clear hkm
            go_wp2_with fail
            go_ret
            exact ⟨ret_int (by have := HK.out; omega), rfl⟩
          · go_wp2_with fail
            go_round
            case rel => exact ⟨k + i + 1, by omega, by go_num⟩
            case measure => simp [intOf]; omega
        · clear hcell hne
          rcases hpar with ⟨hp, hkm⟩ | ⟨hp, hkm⟩
          · have HK : Hid (k + i = m) := hkm
            clear hkm
            go_wp2_with fail
            go_ret
            exact ⟨ret_int (by have := HK.out; omega), rfl⟩
          · go_wp2_with fail
            go_round
            case rel => exact ⟨k + i + 1, by omega, by go_num⟩
            case measure => simp [intOf]; omega

set_option maxHeartbeats 400000 in
/-- isSpace. -/
theorem isSpace_any (x : Int) (w : World) :
    Calls Try.prog 43 #[.int .u8 x] w fun e w' => e = .returned (.bool (decide (x = 32 ∨ x = 9 ∨ x = 13 ∨ x = 10))) ∧ w' = w := by
  by_cases h1 : x = 32
  · subst h1
    go_enter Try.func43, Try.ntmps43
    go_wp2
    go_ret
    exact ⟨rfl, rfl⟩
  by_cases h2 : x = 9
  · subst h2
    go_enter Try.func43, Try.ntmps43
    go_wp2
    go_ret
    exact ⟨rfl, rfl⟩
  by_cases h3 : x = 13
  · subst h3
    go_enter Try.func43, Try.ntmps43
    go_wp2
    go_ret
    exact ⟨rfl, rfl⟩
  by_cases h4 : x = 10
  · subst h4
    go_enter Try.func43, Try.ntmps43
    go_wp2
    go_ret
    exact ⟨rfl, rfl⟩
  have e1 : (x == 32) = false := by simp [h1]
  have e2 : (x == 9) = false := by simp [h2]
  have e3 : (x == 13) = false := by simp [h3]
  have e4 : (x == 10) = false := by simp [h4]
  have e : decide (x = 32 ∨ x = 9 ∨ x = 13 ∨ x = 10) = false := by simp [h1, h2, h3, h4]
  rw [e]
  clear h1 h2 h3 h4 e
  go_enter Try.func43, Try.ntmps43
  go_wp2
  go_ret
  exact ⟨rfl, rfl⟩

end Go.Proofs.Qxb6000722a
