/-
  THE WALKS of skipSpace and leadingInteger.
-/
import Derived.Test.Qxb6001245aRows
import Derived.Test.Qxb6001245aShelf
import Derived.Test.Qxb6001245aPlain
import Derived.WalkKit
import Derived.WalkSpells
import Derived.WalkLawsBesides
namespace Go.Proofs.Qxb6001245a
open Go.RowKit

theorem ret_int {k : IntKind} {a b : Int} (h : a = b) : Ending.returned (.int k a) = .returned (.int k b) := by rw [h]

/-- The bytes zs lie from place o of block b on. -/
def Txt (w : World) (b o : Nat) (zs : List Int) : Prop :=
  (∀ i, i < zs.length → w.cell? ⟨b, o + i, none⟩ = some (.int .u8 (zs.getD i 0))) ∧ ∀ i, 0 ≤ zs.getD i 0 ∧ zs.getD i 0 ≤ 255

theorem getD_drop (zs : List Int) (k i : Nat) : (zs.drop k).getD i 0 = zs.getD (k + i) 0 := by
  simp [List.getD_eq_getElem?_getD, List.getElem?_drop]

theorem Txt.drop {w : World} {b o : Nat} {zs : List Int} (h : Txt w b o zs) (k : Nat) : Txt w b (o + k) (zs.drop k) := by
  refine ⟨fun i hi => ?_, fun i => ?_⟩
  · rw [getD_drop, Nat.add_assoc]
    exact h.1 (k + i) (by simp at hi; omega)
  · rw [getD_drop]; exact h.2 _

theorem getD_left {zs l r : List Int} {i j : Nat} (h : zs.drop i = l ++ r) (hj : j < l.length) : zs.getD (i + j) 0 = l.getD j 0 := by
  rw [← getD_drop, h, List.getD_eq_getElem?_getD, List.getD_eq_getElem?_getD, List.getElem?_append_left hj]
theorem getD_right {zs l r : List Int} {i : Nat} {c : Int} {s : List Int} (h : zs.drop i = l ++ r) (hr : r = c :: s) : zs.getD (i + l.length) 0 = c := by
  rw [← getD_drop, h, hr, List.getD_eq_getElem?_getD, List.getElem?_append_right (Nat.le_refl _)]
  simp
theorem drop_len {zs l r : List Int} {i : Nat} (h : zs.drop i = l ++ r) : (l ++ r).length = zs.length - i := by rw [← h, List.length_drop]
theorem mem_getD {l : List Int} {j : Nat} (h : j < l.length) : l.getD j 0 ∈ l := by
  rw [List.getD_eq_getElem?_getD, List.getElem?_eq_getElem h]; exact List.getElem_mem h

set_option maxHeartbeats 1000000 in
theorem skipSpace_any (b o n c i : Nat) (zs g r : List Int) (w : World) (hn : zs.length = n) (hmax : n ≤ 1073741824) (h : Txt w b o zs) (hi : i ≤ n) (hd : zs.drop i = g ++ r) (hg : ∀ x ∈ g, Plain.spc x) (hr : ∀ y s, r = y :: s → ¬ Plain.spc y) :
    Calls Try.prog 26 #[.slice (some ⟨b, o, none⟩) n c, .int .i64 i] w fun e w' => e = .returned (.int .i64 ((i + g.length : Nat) : Int)) ∧ w' = w := by
  have hl := drop_len hd
  rw [List.length_append, hn] at hl
  have HT : Hid (Txt w b o zs) := h
  have HD : Hid (zs.drop i = g ++ r) := hd
  have HG : Hid (∀ x ∈ g, Plain.spc x) := hg
  have HR : Hid (∀ y s, r = y :: s → ¬ Plain.spc y) := hr
  have HN : Hid (zs.length = n) := hn
  obtain ⟨m, hm⟩ : ∃ m, m = g.length := ⟨_, rfl⟩
  have HM : Hid (m = g.length) := hm
  have hmn : i + m ≤ n := by omega
  have HRL : Hid (r.length = n - i - m) := by show _ = _; omega
  clear h hd hg hr hn hl hm
  go_enter Try.func26, Try.ntmps26
  go_wp2_with fail
  go_loop [1] (fun u => ∃ j k : Nat, j ≤ m ∧ k ≤ i + j ∧ i + j ≤ k ∧ u = .int .i64 k) (fun u => n - (intOf u).toNat)
  case atStart => exact ⟨0, i, by omega, by omega, by omega, rfl⟩
  case round =>
    obtain ⟨j, k, hj, hk1, hk2, rfl⟩ := hrel
    by_cases hlt : j < m
    · have hcell := HT.out.1 k (by rw [HN.out]; omega)
      have hz := getD_left HD.out (j := j) (by rw [← HM.out]; exact hlt)
      have hsp := HG.out _ (mem_getD (l := g) (j := j) (by rw [← HM.out]; exact hlt))
      rw [← hz, show i + j = k from by omega] at hsp
      obtain ⟨z, hzz⟩ : ∃ z, z = zs.getD k 0 := ⟨_, rfl⟩
      rw [← hzz] at hcell hsp
      clear hz hzz
      unfold Plain.spc at hsp
      rcases hsp with rfl | rfl | rfl | rfl
      all_goals
        go_wp2_with fail
        go_round
        case rel => exact ⟨j + 1, k + 1, by omega, by omega, by omega, by go_num⟩
        case measure => simp [intOf]; omega
    · by_cases hkn : k < n
      · obtain ⟨y, s, hys⟩ : ∃ y s, r = y :: s := by
          cases hrr : r with
          | nil => have := HRL.out; rw [hrr] at this; simp at this; omega
          | cons y s => exact ⟨y, s, rfl⟩
        have hns := HR.out y s hys
        have hz := getD_right HD.out hys
        rw [← HM.out, show i + m = k from by omega] at hz
        have hcell := HT.out.1 k (by rw [HN.out]; omega)
        rw [hz] at hcell
        unfold Plain.spc at hns
        have e1 : (y == 32) = false := by simp; omega
        have e2 : (y == 9) = false := by simp; omega
        have e3 : (y == 10) = false := by simp; omega
        have e4 : (y == 13) = false := by simp; omega
        clear hns hz hys
        go_wp2_with fail
        go_ret
        exact ⟨ret_int (by rw [← HM.out]; omega), rfl⟩
      · go_wp2_with fail
        go_ret
        exact ⟨ret_int (by rw [← HM.out]; omega), rfl⟩

theorem wrapNeg (x : Nat) (h : x ≤ 9223372036854775808) : wrap64 (-wrap64 (x : Int)) = -(x : Int) := by unfold wrap64; omega
theorem wrapPos (x : Nat) (h : x ≤ 9223372036854775807) : wrap64 (x : Int) = (x : Int) := by unfold wrap64; omega
theorem ret_three {a a' e e' : Int} (h1 : a = a') (h2 : e = e') : Ending.returned (.tuple #[.int .i64 a, .int .i64 e, .bool true]) = .returned (.tuple #[.int .i64 a', .int .i64 e', .bool true]) := by rw [h1, h2]

/-- What leadingInteger reckons of the digits of M. -/
theorem dgFacts (M : Nat) (hM : M ≤ 9223372036854775808) : 1 ≤ (Plain.dg M).length ∧ (Plain.dg M).length ≤ 19 ∧ Plain.acc 0 (Plain.dg M) = M ∧ ((Plain.dg M).getD 0 0 = 48 → (Plain.dg M).length = 1) :=
  ⟨Plain.dg_pos M, Plain.dg_len M (by omega), Plain.dg_acc M (by omega), Plain.dg_zero M (by omega)⟩

theorem acc_step {x M : Nat} {D : List Int} {j : Nat} (hj : j < D.length) (h : Plain.acc x (D.drop j) = M) : Plain.acc (x * 10 + (D.getD j 0 - 48).toNat) (D.drop (j + 1)) = M ∧ x * 10 + (D.getD j 0 - 48).toNat ≤ M := by
  rw [Plain.drop_cons D j hj, Plain.acc] at h
  exact ⟨h, by have := Plain.acc_le (D.drop (j + 1)) (x * 10 + (D.getD j 0 - 48).toNat); omega⟩

set_option maxRecDepth 100000 in
set_option maxHeartbeats 2000000 in
theorem leadNeg (b o n c i M : Nat) (zs r : List Int) (w : World) (hn : zs.length = n) (hmax : n ≤ 1073741824) (h : Txt w b o zs) (hi : i ≤ n) (hd : zs.drop i = 45 :: (Plain.dg M ++ r)) (hM : M ≤ 9223372036854775808) (hM0 : 1 ≤ M) (hr : ∀ y s, r = y :: s → ¬ (48 ≤ y ∧ y ≤ 57)) :
    Calls Try.prog 22 #[.slice (some ⟨b, o, none⟩) n c, .int .i64 i] w fun e w' => e = .returned (.tuple #[.int .i64 (-(M : Int)), .int .i64 ((i + 1 + (Plain.dg M).length : Nat) : Int), .bool true]) ∧ w' = w := by
  have hd1 : zs.drop (i + 1) = Plain.dg M ++ r := by rw [← List.drop_drop, hd]; rfl
  have hin : i < n := by
    have := congrArg List.length hd
    rw [List.length_drop, hn] at this
    simp at this
    omega
  have hz0 : zs.getD i 0 = 45 := by
    have := getD_drop zs i 0
    rw [hd, Nat.add_zero] at this
    rw [← this]; rfl
  have hcell0 := h.1 i (by omega)
  rw [hz0] at hcell0
  clear hz0
  obtain ⟨d, hdd⟩ : ∃ d, d = i + 1 := ⟨_, rfl⟩
  rw [← hdd] at hd1
  have hdi1 : d ≤ i + 1 := by omega
  have hdi2 : i + 1 ≤ d := by omega
  clear hdd
  obtain ⟨f1, f2, f3, f4⟩ := dgFacts M (by omega)
  have fdig := Plain.dg_digit M
  obtain ⟨D, hD⟩ : ∃ D, D = Plain.dg M := ⟨_, rfl⟩
  rw [← hD] at hd1 f1 f2 f3 f4 fdig ⊢
  obtain ⟨m, hm⟩ : ∃ m, m = D.length := ⟨_, rfl⟩
  rw [← hm] at f1 f2 f4 ⊢
  have hl := drop_len hd1
  rw [List.length_append, hn, ← hm] at hl
  have HD : Hid (zs.drop d = D ++ r) := hd1
  have HT : Hid (Txt w b o zs) := h
  have HN : Hid (zs.length = n) := hn
  have HMm : Hid (m = D.length) := hm
  have HDIG : Hid (∀ x ∈ D, 48 ≤ x ∧ x ≤ 57) := fdig
  have HR : Hid (∀ y s, r = y :: s → ¬ (48 ≤ y ∧ y ≤ 57)) := hr
  have HA : Hid (Plain.acc 0 D = M) := f3
  have HZ : Hid (D.getD 0 0 = 48 → m = 1) := f4
  have HHM : Hid (M ≤ 9223372036854775808) := by show _ ≤ _; omega
  have hM19 : M < 10000000000000000000 := by omega
  have hmn : d + m ≤ n := by omega
  have HRL : Hid (r.length = n - d - m) := by show _ = _; omega
  clear h hd hd1 hn hm fdig hr f3 f4 hl hD
  clear hM
  go_enter Try.func22, Try.ntmps22
  go_wp2_with fail
  go_loop [5, 8] (fun t u => ∃ j x k : Nat, j ≤ m ∧ k ≤ d + j ∧ d + j ≤ k ∧ x ≤ M ∧ t = .int .i64 k ∧ u = .int .u64 x ∧ Hid (Plain.acc x (D.drop j) = M)) (fun t _ => n - (intOf t).toNat)
  case atStart => exact ⟨0, 0, d, by omega, by omega, by omega, by omega, by go_num, rfl, by show _ = _; rw [List.drop_zero]; exact HA.out⟩
  case round =>
    obtain ⟨j, x, k, hj, hk1, hk2, hx, rfl, rfl, HX⟩ := hrel
    by_cases hlt : j < m
    · have hcell := HT.out.1 k (by rw [HN.out]; omega)
      have hz := getD_left HD.out (j := j) (by rw [← HMm.out]; exact hlt)
      have hdg := HDIG.out _ (mem_getD (l := D) (j := j) (by rw [← HMm.out]; exact hlt))
      have hst := acc_step (by rw [← HMm.out]; exact hlt) HX.out
      rw [← hz, show d + j = k from by omega] at hdg hst
      obtain ⟨z, hzz⟩ : ∃ z, z = zs.getD k 0 := ⟨_, rfl⟩
      rw [← hzz] at hcell hdg hst
      obtain ⟨y, hy⟩ : ∃ y : Nat, z = 48 + (y : Int) := ⟨(z - 48).toNat, by omega⟩
      rw [show (z - 48).toNat = y from by omega] at hst
      have hy9 : y ≤ 9 := by omega
      rw [hy] at hcell
      have HX2 : Hid (Plain.acc (x * 10 + y) (D.drop (j + 1)) = M) := hst.1
      have hx2 : x * 10 + y ≤ M := hst.2
      clear hz hzz hy hdg hst HX
      go_wp2_with fail
      go_round
      case rel => exact ⟨j + 1, x * 10 + y, k + 1, by omega, by omega, by omega, hx2, by go_num, by go_num, HX2.out⟩
      case measure => simp [intOf]; omega
    · have hxM : x = M := by
        have := HX.out
        rw [List.drop_of_length_le (by rw [← HMm.out]; omega)] at this
        exact this
      have hjm : j = m := by omega
      subst hxM
      subst hjm
      clear HX hlt hj hx
      have hcellD := HT.out.1 d (by rw [HN.out]; omega)
      have hzD := getD_left HD.out (j := 0) (by rw [← HMm.out]; omega)
      rw [Nat.add_zero] at hzD
      have hz48 := HZ.out
      have hdg0 := HDIG.out _ (mem_getD (l := D) (j := 0) (by rw [← HMm.out]; omega))
      rw [← hzD] at hz48 hdg0
      obtain ⟨zd, hzd⟩ : ∃ zd, zd = zs.getD d 0 := ⟨_, rfl⟩
      rw [← hzd, show d = i + 1 from by omega] at hcellD
      rw [← hzd] at hz48 hdg0
      have t0 : ((k : Int) - ((i : Int) + 1) == 0) = false := by simp; omega
      have t2 : decide ((19 : Int) < (k : Int) - ((i : Int) + 1)) = false := decide_eq_false (by omega)
      have ht1 : decide ((9223372036854775808 : Int) < (x : Int)) = false := decide_eq_false (by have := HHM.out; omega)
      clear hzD hzd
      by_cases h48 : zd = 48
      · have hj1 := hz48 h48
        subst h48
        have hj1' : j ≤ 1 := by omega
        have t1 : decide ((1 : Int) < (k : Int) - ((i : Int) + 1)) = false := decide_eq_false (by omega)
        clear hj1 hz48
        by_cases hkn : k < n
        · obtain ⟨y, s, hys⟩ : ∃ y s, r = y :: s := by
            cases hrr : r with
            | nil => have := HRL.out; rw [hrr] at this; simp at this; omega
            | cons y s => exact ⟨y, s, rfl⟩
          have hnd := HR.out y s hys
          have hz := getD_right HD.out hys
          rw [← HMm.out, show d + j = k from by omega] at hz
          have hcell := HT.out.1 k (by rw [HN.out]; omega)
          rw [hz] at hcell
          clear hz hys
          by_cases hy48 : 48 ≤ y
          · have hy57 : ¬ y ≤ 57 := by omega
            clear hnd
            go_wp2_with fail
            go_ret3
            exact ⟨ret_three (wrapNeg x HHM.out) (by omega), rfl⟩
          · clear hnd
            go_wp2_with fail
            go_ret3
            exact ⟨ret_three (wrapNeg x HHM.out) (by omega), rfl⟩
        · skip
          go_wp2_with fail
          go_ret3
          exact ⟨ret_three (wrapNeg x HHM.out) (by omega), rfl⟩
      · have e48 : (zd == 48) = false := by simp; exact h48
        clear hz48 h48
        by_cases hkn : k < n
        · obtain ⟨y, s, hys⟩ : ∃ y s, r = y :: s := by
            cases hrr : r with
            | nil => have := HRL.out; rw [hrr] at this; simp at this; omega
            | cons y s => exact ⟨y, s, rfl⟩
          have hnd := HR.out y s hys
          have hz := getD_right HD.out hys
          rw [← HMm.out, show d + j = k from by omega] at hz
          have hcell := HT.out.1 k (by rw [HN.out]; omega)
          rw [hz] at hcell
          clear hz hys
          by_cases hy48 : 48 ≤ y
          · have hy57 : ¬ y ≤ 57 := by omega
            clear hnd
            go_wp2_with fail
            go_ret3
            exact ⟨ret_three (wrapNeg x HHM.out) (by omega), rfl⟩
          · clear hnd
            go_wp2_with fail
            go_ret3
            exact ⟨ret_three (wrapNeg x HHM.out) (by omega), rfl⟩
        · skip
          go_wp2_with fail
          go_ret3
          exact ⟨ret_three (wrapNeg x HHM.out) (by omega), rfl⟩

set_option maxRecDepth 100000 in
set_option maxHeartbeats 2000000 in
theorem leadPos (b o n c i M : Nat) (zs r : List Int) (w : World) (hn : zs.length = n) (hmax : n ≤ 1073741824) (h : Txt w b o zs) (hi : i ≤ n) (hd : zs.drop i = Plain.dg M ++ r) (hM : M ≤ 9223372036854775807) (hr : ∀ y s, r = y :: s → ¬ (48 ≤ y ∧ y ≤ 57)) :
    Calls Try.prog 22 #[.slice (some ⟨b, o, none⟩) n c, .int .i64 i] w fun e w' => e = .returned (.tuple #[.int .i64 (M : Int), .int .i64 ((i + (Plain.dg M).length : Nat) : Int), .bool true]) ∧ w' = w := by
  have hd1 : zs.drop i = Plain.dg M ++ r := hd
  obtain ⟨d, hdd⟩ : ∃ d, d = i := ⟨_, rfl⟩
  rw [← hdd] at hd1
  obtain ⟨f1, f2, f3, f4⟩ := dgFacts M (by omega)
  have fdig := Plain.dg_digit M
  obtain ⟨D, hD⟩ : ∃ D, D = Plain.dg M := ⟨_, rfl⟩
  rw [← hD] at hd1 f1 f2 f3 f4 fdig ⊢
  obtain ⟨m, hm⟩ : ∃ m, m = D.length := ⟨_, rfl⟩
  rw [← hm] at f1 f2 f4 ⊢
  have hl := drop_len hd1
  rw [List.length_append, hn, ← hm] at hl
  have HD : Hid (zs.drop d = D ++ r) := hd1
  have HT : Hid (Txt w b o zs) := h
  have HN : Hid (zs.length = n) := hn
  have HMm : Hid (m = D.length) := hm
  have HDIG : Hid (∀ x ∈ D, 48 ≤ x ∧ x ≤ 57) := fdig
  have HR : Hid (∀ y s, r = y :: s → ¬ (48 ≤ y ∧ y ≤ 57)) := hr
  have HA : Hid (Plain.acc 0 D = M) := f3
  have HZ : Hid (D.getD 0 0 = 48 → m = 1) := f4
  have HHM : Hid (M ≤ 9223372036854775808) := by show _ ≤ _; omega
  have hM19 : M < 10000000000000000000 := by omega
  have hmn : d + m ≤ n := by omega
  have HRL : Hid (r.length = n - d - m) := by show _ = _; omega
  have HMP : Hid (M ≤ 9223372036854775807) := hM
  have hcell0 := HT.out.1 d (by rw [HN.out]; omega)
  have h45 := HDIG.out _ (mem_getD (l := D) (j := 0) (by rw [← HMm.out]; omega))
  rw [← getD_left HD.out (j := 0) (by rw [← HMm.out]; omega), Nat.add_zero] at h45
  obtain ⟨z0, hz0⟩ : ∃ z0, z0 = zs.getD d 0 := ⟨_, rfl⟩
  rw [← hz0] at hcell0 h45
  have e45 : (z0 == 45) = false := by simp; omega
  have HZ0 : Hid (z0 = zs.getD d 0) := hz0
  subst hdd
  clear h hd hd1 hn hm fdig hr f3 f4 hl hD hz0 hM
  go_enter Try.func22, Try.ntmps22
  go_wp2_with fail
  go_loop [5, 8] (fun t u => ∃ j x k : Nat, j ≤ m ∧ k ≤ d + j ∧ d + j ≤ k ∧ x ≤ M ∧ t = .int .i64 k ∧ u = .int .u64 x ∧ Hid (Plain.acc x (D.drop j) = M)) (fun t _ => n - (intOf t).toNat)
  case atStart => exact ⟨0, 0, d, by omega, by omega, by omega, by omega, rfl, rfl, by show _ = _; rw [List.drop_zero]; exact HA.out⟩
  case round =>
    obtain ⟨j, x, k, hj, hk1, hk2, hx, rfl, rfl, HX⟩ := hrel
    by_cases hlt : j < m
    · have hcell := HT.out.1 k (by rw [HN.out]; omega)
      have hz := getD_left HD.out (j := j) (by rw [← HMm.out]; exact hlt)
      have hdg := HDIG.out _ (mem_getD (l := D) (j := j) (by rw [← HMm.out]; exact hlt))
      have hst := acc_step (by rw [← HMm.out]; exact hlt) HX.out
      rw [← hz, show d + j = k from by omega] at hdg hst
      obtain ⟨z, hzz⟩ : ∃ z, z = zs.getD k 0 := ⟨_, rfl⟩
      rw [← hzz] at hcell hdg hst
      obtain ⟨y, hy⟩ : ∃ y : Nat, z = 48 + (y : Int) := ⟨(z - 48).toNat, by omega⟩
      rw [show (z - 48).toNat = y from by omega] at hst
      have hy9 : y ≤ 9 := by omega
      rw [hy] at hcell
      have HX2 : Hid (Plain.acc (x * 10 + y) (D.drop (j + 1)) = M) := hst.1
      have hx2 : x * 10 + y ≤ M := hst.2
      clear hz hzz hy hdg hst HX
      go_wp2_with fail
      go_round
      case rel => exact ⟨j + 1, x * 10 + y, k + 1, by omega, by omega, by omega, hx2, by go_num, by go_num, HX2.out⟩
      case measure => simp [intOf]; omega
    · have hxM : x = M := by
        have := HX.out
        rw [List.drop_of_length_le (by rw [← HMm.out]; omega)] at this
        exact this
      have hjm : j = m := by omega
      subst hxM
      subst hjm
      clear HX hlt hj hx
      have hzD := getD_left HD.out (j := 0) (by rw [← HMm.out]; omega)
      rw [Nat.add_zero] at hzD
      have hz48 := HZ.out
      have hdg0 := HDIG.out _ (mem_getD (l := D) (j := 0) (by rw [← HMm.out]; omega))
      rw [← hzD] at hz48 hdg0
      rw [← HZ0.out] at hz48 hdg0
      have t0 : ((k : Int) - (d : Int) == 0) = false := by simp; omega
      have t2 : decide ((19 : Int) < (k : Int) - (d : Int)) = false := decide_eq_false (by omega)
      have ht1 : decide ((9223372036854775808 : Int) < (x : Int)) = false := decide_eq_false (by have := HHM.out; omega)
      have ht2 : ((x : Int) == 9223372036854775808) = false := by have := HMP.out; simp; omega
      clear hzD
      by_cases h48 : z0 = 48
      · have hj1 := hz48 h48
        subst h48
        have hj1' : j ≤ 1 := by omega
        have t1 : decide ((1 : Int) < (k : Int) - (d : Int)) = false := decide_eq_false (by omega)
        clear hj1 hz48
        by_cases hkn : k < n
        · obtain ⟨y, s, hys⟩ : ∃ y s, r = y :: s := by
            cases hrr : r with
            | nil => have := HRL.out; rw [hrr] at this; simp at this; omega
            | cons y s => exact ⟨y, s, rfl⟩
          have hnd := HR.out y s hys
          have hz := getD_right HD.out hys
          rw [← HMm.out, show d + j = k from by omega] at hz
          have hcell := HT.out.1 k (by rw [HN.out]; omega)
          rw [hz] at hcell
          clear hz hys
          by_cases hy48 : 48 ≤ y
          · have hy57 : ¬ y ≤ 57 := by omega
            clear hnd
            go_wp2_with fail
            go_ret3
            exact ⟨ret_three (wrapPos x HMP.out) (by omega), rfl⟩
          · clear hnd
            go_wp2_with fail
            go_ret3
            exact ⟨ret_three (wrapPos x HMP.out) (by omega), rfl⟩
        · skip
          go_wp2_with fail
          go_ret3
          exact ⟨ret_three (wrapPos x HMP.out) (by omega), rfl⟩
      · have e48 : (z0 == 48) = false := by simp; exact h48
        clear hz48 h48
        by_cases hkn : k < n
        · obtain ⟨y, s, hys⟩ : ∃ y s, r = y :: s := by
            cases hrr : r with
            | nil => have := HRL.out; rw [hrr] at this; simp at this; omega
            | cons y s => exact ⟨y, s, rfl⟩
          have hnd := HR.out y s hys
          have hz := getD_right HD.out hys
          rw [← HMm.out, show d + j = k from by omega] at hz
          have hcell := HT.out.1 k (by rw [HN.out]; omega)
          rw [hz] at hcell
          clear hz hys
          by_cases hy48 : 48 ≤ y
          · have hy57 : ¬ y ≤ 57 := by omega
            clear hnd
            go_wp2_with fail
            go_ret3
            exact ⟨ret_three (wrapPos x HMP.out) (by omega), rfl⟩
          · clear hnd
            go_wp2_with fail
            go_ret3
            exact ⟨ret_three (wrapPos x HMP.out) (by omega), rfl⟩
        · skip
          go_wp2_with fail
          go_ret3
          exact ⟨ret_three (wrapPos x HMP.out) (by omega), rfl⟩

end Go.Proofs.Qxb6001245a
