/-
  THE WALK of valueSize.
-/
import Derived.Test.Qxb6000722aStr
namespace Go.Proofs.Qxb6000722a
open Go.RowKit

theorem isSpace_no (x : Int) (w : World) (h : ¬ (x = 32 ∨ x = 9 ∨ x = 13 ∨ x = 10)) :
    Calls Try.prog 43 #[.int .u8 x] w fun e w' => e = .returned (.bool false) ∧ w' = w := by
  have := isSpace_any x w
  rwa [decide_eq_false h] at this
theorem isSpace_yes (x : Int) (w : World) (h : x = 32 ∨ x = 9 ∨ x = 13 ∨ x = 10) :
    Calls Try.prog 43 #[.int .u8 x] w fun e w' => e = .returned (.bool true) ∧ w' = w := by
  have := isSpace_any x w
  rwa [decide_eq_true h] at this

set_option maxHeartbeats 1000000 in
theorem valueSize_any (b o n c : Nat) (zs : List Int) (M : Nat) (w : World) (hn : zs.length = n) (hnc : n ≤ c) (hmax : n ≤ 1073741824) (h : Txt w b o zs) (hV : Plain.V (n + 1) zs 0 = some M) :
    Calls Try.prog 40 #[.slice (some ⟨b, o, none⟩) n c] w fun e w' => e = .returned (.int .i64 M) ∧ w' = w := by
  have HT : Hid (Txt w b o zs) := h
  have HN : Hid (zs.length = n) := hn
  have HV0 : Hid (Plain.V (n + 1) zs 0 = some M) := hV
  clear hV h hn
  go_enter Try.func40, Try.ntmps40
  go_wp2_with fail
  go_loop [3, 4] (fun t u => ∃ k d : Nat, k ≤ n ∧ d ≤ k ∧ t = .int .i64 d ∧ u = .int .i64 k ∧ Hid (∃ f x, Plain.V f (zs.drop k) d = some x ∧ k + x = M)) (fun _ u => n - (intOf u).toNat)
  case atStart => exact ⟨0, 0, Nat.zero_le _, Nat.zero_le _, rfl, rfl, ⟨n + 1, M, by simpa using HV0.out, by omega⟩⟩
  case round =>
    obtain ⟨k, d, hk, hd, rfl, rfl, HV⟩ := hrel
    by_cases hlt : k < n
    · have hcell := HT.out.1 k (by rw [HN.out]; exact hlt)
      have hbd := HT.out.2 k
      obtain ⟨f, x, hv, hx⟩ := HV.out
      have hcs := Plain.V_case (by rw [HN.out]; exact hlt) hv
      clear HV hv
      have HX : Hid (k + x = M) := hx
      clear hx
      obtain ⟨z, hz⟩ : ∃ z, z = zs.getD k 0 := ⟨_, rfl⟩
      rw [← hz] at hcell hbd hcs
      clear hz
      rcases hcs with ⟨rfl, m, hsq, hd2⟩ | ⟨hz, f', y, hv, hx⟩ | ⟨hz, hd2⟩ | ⟨hp, rfl, hsp, rfl⟩ | ⟨hp, hno, f', y, hv, hx⟩
      · obtain ⟨s1, s2, s3, s4⟩ := Plain.sq_some hsq
        have s1' : m < n - (k + 1) := by have := HN.out; simp at s1; omega
        have hstr := stringSize_any b (o + (k + 1)) (n - (k + 1)) (c - (k + 1)) (zs.drop (k + 1)) m w (by have := HN.out; simp; omega) (by omega) (by omega) (HT.out.drop (k + 1)) s1' s2 s3 s4
        have HS := hstr
        clear hstr s1 s2 s3 s4 hsq
        rcases hd2 with ⟨rfl, hx⟩ | ⟨hd1, f', y, hv, hx⟩
        · have HX2 : Hid (x = m + 2) := hx
          clear hx
          go_wp2_with fail
          refine HS.mono ?_
          rintro e w' ⟨rfl, hw'⟩
          subst hw'
          clear HS
          go_wp2_with fail
          go_ret
          exact ⟨ret_int (by have := HX2.out; have := HX.out; omega), rfl⟩
        · have HX2 : Hid (x = y + (m + 2)) := hx
          have HV2 : Hid (Plain.V f' (zs.drop (k + m + 2)) d = some y) := hv
          have hd0 : ((d : Int) == 0) = false := by simp; omega
          clear hx hv
          go_wp2_with fail
          refine HS.mono ?_
          rintro e w' ⟨rfl, hw'⟩
          subst hw'
          clear HS
          go_wp2_with fail
          go_round
          case rel => exact ⟨k + m + 2, d, by omega, by omega, rfl, by go_num, ⟨f', y, HV2.out, by have := HX2.out; have := HX.out; omega⟩⟩
          case measure => simp [intOf]; omega
      · have HX2 : Hid (x = y + 1) := hx
        have HV2 : Hid (Plain.V f' (zs.drop (k + 1)) (d + 1) = some y) := hv
        clear hx hv
        rcases hz with rfl | rfl
        all_goals
          go_wp2_with fail
          go_round
          case rel => exact ⟨k + 1, d + 1, by omega, by omega, by go_num, by go_num, ⟨f', y, HV2.out, by have := HX2.out; have := HX.out; omega⟩⟩
          case measure => simp [intOf]; omega
      · rcases hd2 with ⟨rfl, hx⟩ | ⟨rfl, hx⟩ | ⟨hd1, f', y, hv, hx⟩
        · have HX2 : Hid (x = 0) := hx
          clear hx
          rcases hz with rfl | rfl
          all_goals
            go_wp2_with fail
            go_ret
            exact ⟨ret_int (by have := HX2.out; have := HX.out; omega), rfl⟩
        · have HX2 : Hid (x = 1) := hx
          clear hx
          rcases hz with rfl | rfl
          all_goals
            go_wp2_with fail
            go_ret
            exact ⟨ret_int (by have := HX2.out; have := HX.out; omega), rfl⟩
        · have HX2 : Hid (x = y + 1) := hx
          have HV2 : Hid (Plain.V f' (zs.drop (k + 1)) (d - 1) = some y) := hv
          have hd0 : ((d : Int) == 0) = false := by simp; omega
          have hd1' : ((d : Int) - 1 == 0) = false := by simp; omega
          clear hx hv
          rcases hz with rfl | rfl
          all_goals
            go_wp2_with fail
            go_round
            case rel => exact ⟨k + 1, d - 1, by omega, by omega, by go_num, by go_num, ⟨f', y, HV2.out, by have := HX2.out; have := HX.out; omega⟩⟩
            case measure => simp [intOf]; omega
      · unfold Plain.sp at hsp
        clear hp
        rcases hsp with rfl | rfl | hs
        · go_wp2_with fail
          go_ret
          exact ⟨ret_int (by have := HX.out; omega), rfl⟩
        · go_wp2_with fail
          go_ret
          exact ⟨ret_int (by have := HX.out; omega), rfl⟩
        · have HSP := isSpace_yes z w hs
          have g1 : (z == 34) = false := by simp; omega
          have g2 : (z == 91) = false := by simp; omega
          have g3 : (z == 123) = false := by simp; omega
          have g4 : (z == 93) = false := by simp; omega
          have g5 : (z == 125) = false := by simp; omega
          have g6 : (z == 44) = false := by simp; omega
          have g7 : (z == 58) = false := by simp; omega
          clear hs
          go_wp2_with fail
          refine HSP.mono ?_
          rintro e w' ⟨rfl, hw'⟩
          subst hw'
          clear HSP
          go_wp2_with fail
          go_ret
          exact ⟨ret_int (by have := HX.out; omega), rfl⟩
      · unfold Plain.plainB at hp
        have HX2 : Hid (x = y + 1) := hx
        have HV2 : Hid (Plain.V f' (zs.drop (k + 1)) d = some y) := hv
        have g1 : (z == 34) = false := by simp; omega
        have g2 : (z == 91) = false := by simp; omega
        have g3 : (z == 123) = false := by simp; omega
        have g4 : (z == 93) = false := by simp; omega
        have g5 : (z == 125) = false := by simp; omega
        clear hx hv hp
        by_cases hd0 : d = 0
        · have hns : ¬ Plain.sp z := fun e => hno ⟨hd0, e⟩
          unfold Plain.sp at hns
          subst hd0
          have HSP := isSpace_no z w (by omega)
          have g6 : (z == 44) = false := by simp; omega
          have g7 : (z == 58) = false := by simp; omega
          clear hns hno
          go_wp2_with fail
          refine HSP.mono ?_
          rintro e w' ⟨rfl, hw'⟩
          subst hw'
          clear HSP
          go_wp2_with fail
          go_round
          case rel => exact ⟨k + 1, 0, by omega, by omega, rfl, by go_num, ⟨f', y, HV2.out, by have := HX2.out; have := HX.out; omega⟩⟩
          case measure => simp [intOf]; omega
        · have hd0' : ((d : Int) == 0) = false := by simp; omega
          clear hno hd0
          go_wp2_with fail
          go_round
          case rel => exact ⟨k + 1, d, by omega, by omega, rfl, by go_num, ⟨f', y, HV2.out, by have := HX2.out; have := HX.out; omega⟩⟩
          case measure => simp [intOf]; omega
    · obtain ⟨f, x, hv, hx⟩ := HV.out
      have hx0 := Plain.V_end (by rw [HN.out]; omega) hv
      have HX : Hid (n = M) := by show n = M; omega
      clear hv hx hx0 HV
      go_wp2_with fail
      go_ret
      exact ⟨ret_int (by have := HX.out; omega), rfl⟩

/-- ZZValueSize. -/
theorem zzValueSize_any (b o n c : Nat) (zs : List Int) (M : Nat) (w : World) (hn : zs.length = n) (hnc : n ≤ c) (hmax : n ≤ 1073741824) (h : Txt w b o zs) (hV : Plain.V (n + 1) zs 0 = some M) :
    Calls Try.prog 19 #[.slice (some ⟨b, o, none⟩) n c] w fun e w' => e = .returned (.int .i64 M) ∧ w' = w := by
  have HS := valueSize_any b o n c zs M w hn hnc hmax h hV
  clear hV h hn
  go_enter Try.func19, Try.ntmps19
  go_wp2_with fail
  refine HS.mono ?_
  rintro e w' ⟨rfl, hw'⟩
  subst hw'
  clear HS
  go_wp2_with fail
  go_ret
  exact ⟨rfl, rfl⟩

end Go.Proofs.Qxb6000722a
