/-
  THE WALKS of untrackedCacheEmpty, ZZuntrackedCacheEmpty.
-/
import Derived.Test.Qxb6001092aVar
namespace Go.Proofs.Qxb6001092a
open Go.RowKit

/-- Where the name begins. -/
def nameAt (E : List Int) (h : Nat) : Nat := (Plain.vr 0 0 E).2 + ((Plain.vr 0 0 E).1 + 72 + 4 + 2 * h)

theorem vr_size : ∀ (l : List Int) (n i : Nat), (Plain.vr n i l).2 ≤ i + l.length
  | [], n, i => by simp [Plain.vr]
  | b :: r, n, i => by
    by_cases hs : 0 < i ∧ Plain.lim ≤ n
    · rw [Plain.vr_stop hs]; simp
    · by_cases hb : b < 128
      · rw [Plain.vr_end hs hb]; simp
      · rw [Plain.vr_more hs hb]
        have := vr_size r ((if 0 < i then (n + 1) * 128 else n) + (b % 128).toNat) (i + 1)
        simp; omega

theorem fz_lt : ∀ (l : List Int) (i : Nat), Plain.fz l = some i → i < l.length
  | [], i, h => by simp [Plain.fz] at h
  | b :: r, i, h => by
    rw [Plain.fz] at h
    by_cases hb : b = 0
    · rw [if_pos hb] at h; simp at h; simp; omega
    · rw [if_neg hb] at h
      cases hf : Plain.fz r with
      | none => rw [hf] at h; simp at h
      | some j =>
        rw [hf] at h
        have := fz_lt r j hf
        simp at h
        simp; omega

set_option maxHeartbeats 1000000 in
theorem uce_any (b o n c : Nat) (E : List Int) (h : Nat) (w : World) (hn : E.length = n) (hmax : n ≤ 1073741824) (hh : h ≤ 65536) (ht : Txt w b o E) (_hc : n ≤ c)
    (H1 : nameAt E h ≤ n → nameAt E h < c) (H2 : ∀ i, Plain.fz (E.drop (nameAt E h)) = some i → nameAt E h + i + 1 < c) :
    Calls Try.prog 29 #[.slice (some ⟨b, o, none⟩) n c, .int .i64 h] w fun e w' => e = .returned (.bool (Plain.uce E h)) ∧ w' = w := by
  have HV := varint_any b o n c E w hn hmax ht
  obtain ⟨L, S, hLS⟩ : ∃ L S, Plain.vr 0 0 E = (L, S) := ⟨_, _, rfl⟩
  have hu : Plain.uce E h = (if S = 0 ∨ n < L then false else if n < S + (L + 72 + 4 + 2 * h) then false else match Plain.fz (E.drop (S + (L + 72 + 4 + 2 * h))) with
    | none => false
    | some i => Plain.zeroB (E.drop (S + (L + 72 + 4 + 2 * h) + i + 1))) := by
    unfold Plain.uce; rw [hLS, hn]; rfl
  have hna : nameAt E h = S + (L + 72 + 4 + 2 * h) := by unfold nameAt; rw [hLS]
  rw [hna] at H1 H2
  have hSn : S ≤ n := by have := vr_size E 0 0; rw [hLS] at this; simp at this; omega
  rw [hLS] at HV
  rw [hu]
  have HT : Hid (Txt w b o E) := ht
  have HN : Hid (E.length = n) := hn
  clear hu hna hLS ht hn
  by_cases h1 : S = 0
  · rw [if_pos (.inl h1)]
    subst h1
    clear H1 H2
    go_enter Try.func29, Try.ntmps29
    go_wp2_with fail
    refine HV.mono ?_
    rintro e w1 ⟨rfl, hw1⟩
    subst hw1
    clear HV
    go_wp2_with fail
    go_ret
    exact ⟨rfl, rfl⟩
  · have h1' : ((S : Int) == 0) = false := by simp; omega
    by_cases h2 : n < L
    · rw [if_pos (.inr h2)]
      clear H1 H2
      go_enter Try.func29, Try.ntmps29
      go_wp2_with fail
      refine HV.mono ?_
      rintro e w1 ⟨rfl, hw1⟩
      subst hw1
      clear HV
      go_wp2_with fail
      go_ret
      exact ⟨rfl, rfl⟩
    · rw [if_neg (by omega)]
      by_cases h3 : n < S + (L + 72 + 4 + 2 * h)
      · rw [if_pos h3]
        clear H1 H2
        go_enter Try.func29, Try.ntmps29
        go_wp2_with fail
        refine HV.mono ?_
        rintro e w1 ⟨rfl, hw1⟩
        subst hw1
        clear HV
        go_wp2_with fail
        go_ret
        exact ⟨rfl, rfl⟩
      · rw [if_neg h3]
        have hcc := H1 (by omega)
        have HI := indexByte_any b (o + (S + (L + 72 + 4 + 2 * h))) (n - (S + (L + 72 + 4 + 2 * h))) (c - (S + (L + 72 + 4 + 2 * h))) (E.drop (S + (L + 72 + 4 + 2 * h))) w (by have := HN.out; simp; omega) (HT.out.drop _)
        have HH2 : Hid (∀ i, Plain.fz (E.drop (S + (L + 72 + 4 + 2 * h))) = some i → (S + (L + 72 + 4 + 2 * h)) + i + 1 < c) := H2
        clear H1 H2
        cases hf : Plain.fz (E.drop (S + (L + 72 + 4 + 2 * h))) with
        | none =>
          have hI : fzI (E.drop (S + (L + 72 + 4 + 2 * h))) = -1 := by unfold fzI; rw [hf]
          rw [hI] at HI
          clear hI hf
          go_enter Try.func29, Try.ntmps29
          go_wp2_with fail
          refine HV.mono ?_
          rintro e w1 ⟨rfl, hw1⟩
          subst hw1
          clear HV
          go_wp2_with fail
          refine HI.mono ?_
          rintro e w1 ⟨rfl, hw1⟩
          subst hw1
          clear HI
          go_wp2_with fail
          go_ret
          exact ⟨rfl, rfl⟩
        | some i =>
          have hI : fzI (E.drop (S + (L + 72 + 4 + 2 * h))) = (i : Int) := by unfold fzI; rw [hf]
          rw [hI] at HI
          have hci := HH2.out i hf
          have hil := fz_lt _ _ hf
          rw [List.length_drop, HN.out] at hil
          have HV2 := varint_any b (o + (S + (L + 72 + 4 + 2 * h) + i + 1)) (n - (S + (L + 72 + 4 + 2 * h) + i + 1)) (c - (S + (L + 72 + 4 + 2 * h) + i + 1)) (E.drop (S + (L + 72 + 4 + 2 * h) + i + 1)) w (by have := HN.out; simp; omega) (by omega) (HT.out.drop _)
          obtain ⟨L2, S2, hLS2⟩ : ∃ L2 S2, Plain.vr 0 0 (E.drop (S + (L + 72 + 4 + 2 * h) + i + 1)) = (L2, S2) := ⟨_, _, rfl⟩
          have hz := Plain.zeroB_of _ _ hLS2
          rw [hLS2] at HV2
          simp only
          rw [hz]
          clear hI hf hz hLS2 HH2
          by_cases hS2 : 0 < S2
          · by_cases hL2 : L2 = 0
            · subst hL2
              rw [decide_eq_true hS2]
              go_enter Try.func29, Try.ntmps29
              go_wp2_with fail
              refine HV.mono ?_
              rintro e w1 ⟨rfl, hw1⟩
              subst hw1
              clear HV
              go_wp2_with fail
              refine HI.mono ?_
              rintro e w1 ⟨rfl, hw1⟩
              subst hw1
              clear HI
              go_wp2_with fail
              refine HV2.mono ?_
              rintro e w1 ⟨rfl, hw1⟩
              subst hw1
              clear HV2
              go_wp2_with fail
              go_ret
              exact ⟨rfl, rfl⟩
            · rw [decide_eq_true hS2, decide_eq_false hL2]
              have hL2' : ((L2 : Int) == 0) = false := by simp; omega
              go_enter Try.func29, Try.ntmps29
              go_wp2_with fail
              refine HV.mono ?_
              rintro e w1 ⟨rfl, hw1⟩
              subst hw1
              clear HV
              go_wp2_with fail
              refine HI.mono ?_
              rintro e w1 ⟨rfl, hw1⟩
              subst hw1
              clear HI
              go_wp2_with fail
              refine HV2.mono ?_
              rintro e w1 ⟨rfl, hw1⟩
              subst hw1
              clear HV2
              go_wp2_with fail
              go_ret
              exact ⟨rfl, rfl⟩
          · have hS20 : S2 = 0 := by omega
            subst hS20
            go_enter Try.func29, Try.ntmps29
            go_wp2_with fail
            refine HV.mono ?_
            rintro e w1 ⟨rfl, hw1⟩
            subst hw1
            clear HV
            go_wp2_with fail
            refine HI.mono ?_
            rintro e w1 ⟨rfl, hw1⟩
            subst hw1
            clear HI
            go_wp2_with fail
            refine HV2.mono ?_
            rintro e w1 ⟨rfl, hw1⟩
            subst hw1
            clear HV2
            go_wp2_with fail
            go_ret
            exact ⟨rfl, rfl⟩

/-- ZZuntrackedCacheEmpty. -/
theorem zzUce_any (b o n c : Nat) (E : List Int) (h : Nat) (w : World) (hn : E.length = n) (hmax : n ≤ 1073741824) (hh : h ≤ 65536) (ht : Txt w b o E) (hc : n ≤ c)
    (H1 : nameAt E h ≤ n → nameAt E h < c) (H2 : ∀ i, Plain.fz (E.drop (nameAt E h)) = some i → nameAt E h + i + 1 < c) :
    Calls Try.prog 23 #[.slice (some ⟨b, o, none⟩) n c, .int .i64 h] w fun e w' => e = .returned (.bool (Plain.uce E h)) ∧ w' = w := by
  have HC := uce_any b o n c E h w hn hmax hh ht hc H1 H2
  clear H1 H2 ht hn
  generalize Plain.uce E h = r at HC ⊢
  go_enter Try.func23, Try.ntmps23
  go_wp2_with fail
  refine HC.mono ?_
  rintro e w1 ⟨rfl, hw1⟩
  subst hw1
  clear HC
  go_wp2_with fail
  go_ret
  exact ⟨rfl, rfl⟩

end Go.Proofs.Qxb6001092a
