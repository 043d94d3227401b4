/-
  THE WALK of FnValueSizeOfBuiltValue.
-/
import Derived.Test.Qxb6000722aVal
import Derived.Test.Qxb6000722aEsc
import Derived.Deep.DeepCutAuto
namespace Go.Proofs.Qxb6000722a
open Go.RowKit

/-- The tail: where it holds a byte, an address, and the bytes lie there. -/
def Tl (w : World) (a : Option Addr) (tl : List Int) : Prop :=
  ∀ k, k < tl.length → ∃ b o, a = some ⟨b, o, none⟩ ∧ b < w.heap.size ∧ ∀ i, i < tl.length → w.cell? ⟨b, o + i, none⟩ = some (.int .u8 (tl.getD i 0))

/-- The word of a level, as bytes. -/
def wrd (wd : Nat → ByteArray) (n l : Nat) : List Int := if n = 0 then [] else bl (wd (l % n))

/-- The table of escaped lengths, its first k entries made. -/
def Tab (wd : Nat → ByteArray) (n k : Nat) (L : List Int) : Prop := L.length = n ∧ ∀ i, i < k → L.getD i 0 = ((Plain.esc (bl (wd i))).length : Nat)

theorem Tab.step {wd : Nat → ByteArray} {n k : Nat} {L : List Int} (h : Tab wd n k L) (hk : k < n) : Tab wd n (k + 1) (L.set k ((Plain.esc (bl (wd k))).length : Nat)) := by
  refine ⟨by simp [h.1], fun i hi => ?_⟩
  rw [List.getD_eq_getElem?_getD, List.getElem?_set]
  by_cases e : k = i
  · subst e
    simp [h.1, hk]
  · rw [if_neg e, ← List.getD_eq_getElem?_getD]
    exact h.2 i (by omega)

theorem byt_of_getD {l : List Int} (h : ∀ i, 0 ≤ l.getD i 0 ∧ l.getD i 0 ≤ 255) : Plain.Byt l := by
  intro x hx
  obtain ⟨i, hi, rfl⟩ := List.getElem_of_mem hx
  have := h i
  rw [List.getD_eq_getElem?_getD, List.getElem?_eq_getElem hi] at this
  exact this
theorem byt_bl (s : ByteArray) : Plain.Byt (bl s) := byt_of_getD (bl_bd s)
theorem byt_wrd (wd : Nat → ByteArray) (n l : Nat) : Plain.Byt (wrd wd n l) := by
  unfold wrd
  split
  · intro x hx; simp at hx
  · exact byt_bl _

set_option maxRecDepth 100000 in
set_option maxHeartbeats 4000000 in
theorem walk (a0 : Option Addr) (n cap0 : Nat) (wd : Nat → ByteArray) (dep : Int) (a2 : Option Addr) (tl : List Int) (cap2 : Nat) (w : World)
    (w0 : Wds w a0 n wd) (hl0 : n ≤ 9223372036854775807) (hsz : ∀ i, i < n → (wd i).size ≤ 9223372036854775807) (w1 : (Lit.int .i64 dep).wf = true)
    (w2 : Tl w a2 tl) (hb2 : ∀ i, 0 ≤ tl.getD i 0 ∧ tl.getD i 0 ≤ 255) (hnone : a2 = none → tl.length = 0 ∧ cap2 = 0) (hl2 : tl.length ≤ cap2) (hc2 : cap2 ≤ 9223372036854775807) :
    Calls Try.prog 8 #[.slice a0 n cap0, .int .i64 dep, .slice a2 tl.length cap2] w fun e w' => e = .returned (.bool true) ∧ Below w.heap.size w w' := by
  obtain ⟨i5, hi5, z50, z51, z52⟩ := info_parts info5
  obtain ⟨i3, hi3, z30, z31, z32⟩ := info_parts info3
  have HB2 : Hid (∀ i, 0 ≤ tl.getD i 0 ∧ tl.getD i 0 ≤ 255) := hb2
  have HNONE : Hid (a2 = none → tl.length = 0 ∧ cap2 = 0) := hnone
  clear hb2 hnone
  obtain ⟨B, hB⟩ : ∃ B, w.heap.size = B := ⟨_, rfl⟩
  obtain ⟨m, hm⟩ : ∃ m, m = tl.length := ⟨_, rfl⟩
  have HM : Hid (m = tl.length) := hm
  have HZ := zzBytes_any a0 n cap0 wd dep a2 m cap2 w w0 hl0 (by omega) hsz
  rw [hB, ← hm]
  rw [← hm] at hl2
  clear hm
  by_cases h1 : n ≤ 65536
  · by_cases h2 : m ≤ 1048576
    · go_enter Try.func8, Try.ntmps8
      go_wp2_with fail
      refine HZ.mono ?_
      rintro e w' ⟨⟨r, rfl⟩, hw'⟩
      subst hw'
      clear HZ
      cases r with
      | false =>
        go_wp2_with fail
        go_ret
        exact ⟨rfl, Below.refl _ _⟩
      | true =>
        go_wp2_with fail
        go_loop [7, 8] (fun t u => ∃ x k : Nat, k ≤ n ∧ x ≤ 4194304 ∧ t = .int .i64 x ∧ u = .int .i64 k ∧ Hid (∀ i, i < k → (wd i).size ≤ 1048576)) (fun _ u => n - (intOf u).toNat)
        case atStart => exact ⟨m + 8 * n, 0, by omega, by omega, by go_num, rfl, fun i hi => by omega⟩
        case round =>
          obtain ⟨x, k, hk, hx, rfl, rfl, HW⟩ := hrel
          by_cases hlt : k < n
          ·
            obtain ⟨b, o, rfl, _, hc⟩ := w0 k hlt
            have hcell := hc k hlt
            have hs := hsz k hlt
            obtain ⟨s, hs'⟩ : ∃ s, s = wd k := ⟨_, rfl⟩
            rw [← hs'] at hcell hs
            have HS : Hid (s = wd k) := hs'
            clear hs' hc w0 hsz w2
            by_cases hs1 : s.size ≤ 1048576
            · by_cases hs2 : x + s.size ≤ 1048576
              · go_wp2_with fail
                go_round
                case rel => exact ⟨x + s.size, k + 1, by omega, by omega, by go_num, by go_num, fun i hi => by
                  rcases Nat.lt_or_ge i k with g | g
                  · exact HW.out i g
                  · have : i = k := by omega
                    rw [this, ← HS.out]; exact hs1⟩
                case measure => simp [intOf]; omega
              · go_wp2_with fail
                go_ret
                exact ⟨rfl, Below.refl _ _⟩
            · go_wp2_with fail
              go_ret
              exact ⟨rfl, Below.refl _ _⟩
          · have ek : k = n := by omega
            subst ek
            by_cases hx1 : x ≤ 1048576
            · by_cases hd1 : 0 ≤ dep
              · by_cases hd2 : dep ≤ 65536
                · obtain ⟨d, rfl⟩ : ∃ d : Nat, dep = d := ⟨dep.toNat, by omega⟩
                  have W0 : Hid (Wds w' a0 k wd) := w0
                  have W2 : Hid (Tl w' a2 tl) := w2
                  clear w0 w2 hsz hl0 hlt hk hd1 w1
                  go_wp2_with (at_make; refine wpList_make_full _ rfl (.tmp 70) (.tmp 70) 31 rfl B 3 i3 (.int .i64 0) 1 Try.underlying31 hi3 z30 z31 .i64 .i64 k k k rfl rfl rfl rfl (by rw [z32]; omega) (by unfold maxLen; omega) (by omega) ?_; intro w1 hown1 hgr1)
                  rw [hB] at hown1
                  rw [Nat.mul_one, show (Value.int IntKind.i64 0).cells = #[.int .i64 0] from rfl, toList_madeCells_one] at hown1
                  have hbel1 : Below B w' w1 := (Below.refl B w').grown hgr1 (by omega) (by simp)
                  have HHB : Hid (w'.heap.size = B) := hB
                  clear hgr1 hB
                  go_loopw [11] (fun u wr => ∃ j : Nat, ∃ L : List Int, j ≤ k ∧ u = .int .i64 j ∧ Hid (Tab wd k j L) ∧ wr.ownsRow B 3 1 (.slice (some ⟨B, 0, none⟩) k k) k (L.map (Value.int .i64)) ∧ Below B w' wr) (fun u _ => k - (intOf u).toNat)
                  case atStart => exact ⟨0, List.replicate k 0, by omega, rfl, ⟨by simp, fun i hi => by omega⟩, by simpa using hown1, hbel1⟩
                  case round =>
                    clear hown1 hbel1
                    obtain ⟨j, L, hj, rfl, HTab, hown, hbel⟩ := hrel
                    by_cases hlt : j < k
                    ·
                      have W0' := W0.out.later HHB.out hbel
                      obtain ⟨b, o, rfl, _, hc⟩ := W0' j hlt
                      have hcell := hc j hlt
                      have HC := fun wx => escLen_any (wd j) wx (HW.out j hlt)
                      have hold := hown.cellAt j (by omega)
                      have hfz := hown.frozenAt j
                      have hjL : j < L.length := by rw [HTab.out.1]; exact hlt
                      rw [List.getElem?_map, List.getElem?_eq_getElem hjL] at hold
                      simp only [Option.map_some] at hold
                      obtain ⟨v, hv⟩ : ∃ v, v = L[j] := ⟨_, rfl⟩
                      rw [← hv] at hold
                      have hst := hown.stored j (.int .i64 ((Plain.esc (bl (wd j))).length : Nat))
                      rw [← List.map_set] at hst
                      have hT := HTab.out.step hlt
                      have hbel' := hbel.grown hst.2 (by have := hbel.size; have := HHB.out; omega) (by intro q hq; simp at hq; omega)
                      obtain ⟨s, hs⟩ : ∃ s, s = wd j := ⟨_, rfl⟩
                      obtain ⟨el, hel⟩ : ∃ el : Nat, el = (Plain.esc (bl (wd j))).length := ⟨_, rfl⟩
                      rw [← hs] at hcell
                      rw [← hel, ← hs] at HC
                      rw [← hel] at hst hT hbel'
                      have HT : Hid (Tab wd k (j + 1) (L.set j el)) := hT
                      have HST := hst.1
                      clear hst hT hc hs hel hv hown hbel W0' hjL
                      go_wp2_with fail
                      refine (HC _).mono ?_
                      rintro e w2 ⟨rfl, hw2⟩
                      subst hw2
                      clear HC
                      go_wp2_with fail
                      go_roundw
                      case rel => exact ⟨j + 1, L.set j el, by omega, by go_num, HT.out, HST, hbel'⟩
                      case measure => simp [intOf]; omega
                    · have ej : j = k := by omega
                      subst ej
                      clear hlt hj
                      obtain ⟨c0, hc0⟩ : ∃ c0 : Nat, c0 = (Plain.core j (bl (wd 0))).length := ⟨_, rfl⟩
                      have HC0 : Hid (c0 = (Plain.core j (bl (wd 0))).length) := hc0
                      clear hc0
                      go_upto_if 86 with fail
                      go_cut [12] from 24 (fun t wc => t = .int .i64 (c0 : Nat) ∧ c0 ≤ 2097154 ∧ wc = wr)
                      case first =>
                        by_cases hj0 : j = 0
                        · have e0 : Hid (c0 = 4) := by show _ = _; rw [HC0.out, hj0]; rfl
                          subst hj0
                          go_wp2_with fail
                          go_meet
                          exact ⟨by rw [e0.out]; rfl, by rw [e0.out]; omega, rfl⟩
                        · have hjp : 0 < j := by omega
                          have hel := HTab.out.2 0 hjp
                          have e0 : Hid (c0 = (Plain.esc (bl (wd 0))).length + 2) := by show _ = _; rw [HC0.out]; unfold Plain.core; rw [if_neg hj0]; simp
                          have hle := Plain.esc_le (bl (wd 0))
                          rw [bl_len] at hle
                          have hws := HW.out 0 hjp
                          have hold := hown.cellAt 0 (by omega)
                          have hjL : 0 < L.length := by rw [HTab.out.1]; exact hjp
                          rw [List.getElem?_map, List.getElem?_eq_getElem hjL] at hold
                          simp only [Option.map_some] at hold
                          rw [List.getD_eq_getElem?_getD, List.getElem?_eq_getElem hjL] at hel
                          simp only [Option.getD_some] at hel
                          rw [hel] at hold
                          obtain ⟨q, hq⟩ : ∃ q : Nat, q = (Plain.esc (bl (wd 0))).length := ⟨_, rfl⟩
                          rw [← hq] at hold hle
                          have e0' : Hid (c0 = q + 2) := by show _ = _; rw [hq]; exact e0.out
                          have hq2 : q ≤ 2097152 := by omega
                          clear hel hle hws hq hj0 hjL
                          go_wp2_with fail
                          go_meet
                          exact ⟨by rw [e0'.out]; go_num, by rw [e0'.out]; omega, rfl⟩
                      case rest =>
                        obtain ⟨rfl, hc0, rfl⟩ := hcut
                        clear hx hx1
                        go_wp2_with fail
                        go_loop [12, 13] (fun t u => ∃ l q : Nat, l ≤ d ∧ q ≤ 4194304 ∧ t = .int .i64 q ∧ u = .int .i64 l ∧ Hid (q = (Plain.opns (wrd wd j) l).length + c0 + l)) (fun _ u => d - (intOf u).toNat)
                        case atStart => exact ⟨0, c0, by omega, by omega, rfl, rfl, by show _ = _; simp [Plain.opns]⟩
                        case round =>
                          obtain ⟨l, q, hl, hq, rfl, rfl, HQ⟩ := hrel
                          by_cases hlt : l < d
                          ·
                            have hon : (Plain.opns (wrd wd j) (l + 1)).length = (Plain.esc (wrd wd j l)).length + 4 + (Plain.opns (wrd wd j) l).length := by
                              rw [Plain.opns, List.length_append, Plain.len_opn]
                            have HON : Hid ((Plain.opns (wrd wd j) (l + 1)).length = (Plain.esc (wrd wd j l)).length + 4 + (Plain.opns (wrd wd j) l).length) := hon
                            clear hon
                            by_cases hj0 : j = 0
                            · have HE : Hid ((Plain.esc (wrd wd j l)).length = 0) := by show _ = _; unfold wrd; rw [if_pos hj0]; rfl
                              subst hj0
                              by_cases hq2 : q ≤ 4194299
                              · have ht : decide ((4194304 : Int) < (q : Int) + 5) = false := decide_eq_false (by omega)
                                go_wp2_with fail
                                go_round
                                case rel => exact ⟨l + 1, q + 5, by omega, by omega, by go_num, by go_num, by show _ = _; rw [HON.out, HE.out, HQ.out]; omega⟩
                                case measure => simp [intOf]; omega
                              · have ht : decide ((4194304 : Int) < (q : Int) + 5) = true := decide_eq_true (by omega)
                                go_wp2_with fail
                                go_ret
                                exact ⟨rfl, hbel⟩
                            · have hjp : 0 < j := by omega
                              have hlj : l % j < j := Nat.mod_lt _ hjp
                              have hel := HTab.out.2 (l % j) hlj
                              have hle := Plain.esc_le (bl (wd (l % j)))
                              rw [bl_len] at hle
                              have hws := HW.out (l % j) hlj
                              have hold := hown.cellAt (l % j) (by omega)
                              have hjL : l % j < L.length := by rw [HTab.out.1]; exact hlj
                              rw [List.getElem?_map, List.getElem?_eq_getElem hjL] at hold
                              simp only [Option.map_some] at hold
                              rw [List.getD_eq_getElem?_getD, List.getElem?_eq_getElem hjL] at hel
                              simp only [Option.getD_some] at hel
                              rw [hel] at hold
                              have HE : Hid ((Plain.esc (wrd wd j l)).length = (Plain.esc (bl (wd (l % j)))).length) := by show _ = _; unfold wrd; rw [if_neg hj0]
                              obtain ⟨y, hy⟩ : ∃ y : Nat, y = (Plain.esc (bl (wd (l % j)))).length := ⟨_, rfl⟩
                              rw [← hy] at hold hle HE
                              have hy2 : y ≤ 2097152 := by omega
                              have hjI : (0 : Int) < (j : Int) := by omega
                              have hne : ((j : Int) == 0) = false := by simp; omega
                              clear hel hle hws hy hj0 hjL
                              by_cases hq2 : q + y ≤ 4194299
                              · have ht : decide ((4194304 : Int) < (q : Int) + ((y : Int) + 5)) = false := decide_eq_false (by omega)
                                go_wp2_with fail
                                go_round
                                case rel => exact ⟨l + 1, q + (y + 5), by omega, by omega, by go_num, by go_num, by show _ = _; rw [HON.out, HE.out, HQ.out]; omega⟩
                                case measure => simp [intOf]; omega
                              · have ht : decide ((4194304 : Int) < (q : Int) + ((y : Int) + 5)) = true := decide_eq_true (by omega)
                                go_wp2_with fail
                                go_ret
                                exact ⟨rfl, hbel⟩
                          · have el : l = d := by omega
                            subst el
                            clear hlt hl hown HTab
                            obtain ⟨bb, hbb⟩ : ∃ bb : Bool, bb = true ↔ (j = 0 ∧ l = 0 ∧ 0 < m ∧ ¬ Plain.delim (tl.getD 0 0)) := by
                              by_cases hh : j = 0 ∧ l = 0 ∧ 0 < m ∧ ¬ Plain.delim (tl.getD 0 0)
                              · exact ⟨true, by simp only [hh, true_iff]; simp⟩
                              · exact ⟨false, by simp only [hh, iff_false]; simp⟩
                            have HBB : Hid (bb = true ↔ (j = 0 ∧ l = 0 ∧ 0 < m ∧ ¬ Plain.delim (tl.getD 0 0))) := hbb
                            clear hbb
                            go_upto_region 36 with fail
                            go_cut [127] from 24 (fun t wx => t = .bool bb ∧ wx = wc)
                            case first =>
                              by_cases hj0 : j = 0
                              · by_cases hl0 : l = 0
                                · by_cases hm0 : m = 0
                                  · have hbf : bb = false := by
                                      cases bb with
                                      | false => rfl
                                      | true => have := HBB.out.1 rfl; omega
                                    subst hj0 hl0 hm0
                                    subst hbf
                                    go_wp2_with fail
                                    go_meet
                                    exact ⟨rfl, rfl⟩
                                  · have HM0 := HM.out
                                    obtain ⟨b, o, rfl, hb0, hc⟩ := W2.out 0 (by omega)
                                    have hcell := hc 0 (by omega)
                                    have hcell' := (hbel.cell (p := ⟨b, o + 0, none⟩) (by show b < B; have := HHB.out; omega)).trans hcell
                                    rw [Nat.add_zero] at hcell'
                                    obtain ⟨z, hz⟩ : ∃ z, z = tl.getD 0 0 := ⟨_, rfl⟩
                                    rw [← hz] at hcell'
                                    have HD := fun wx => isDelim_any z wx (!bb) (by
                                      have := HBB.out
                                      rw [← hz] at this
                                      cases bb with
                                      | false =>
                                        have hn : ¬ (j = 0 ∧ l = 0 ∧ 0 < m ∧ ¬ Plain.delim z) := fun e => by have := this.2 e; simp at this
                                        simp only [Bool.not_false, true_iff]
                                        exact Classical.byContradiction fun e => hn ⟨hj0, hl0, by omega, e⟩
                                      | true => simp only [Bool.not_true, Bool.false_eq_true, false_iff]; exact (this.1 rfl).2.2.2)
                                    have hmp : (0 : Int) < (m : Int) := by omega
                                    clear HM0 hc hcell hz hb0
                                    subst hj0 hl0
                                    go_wp2_with fail
                                    refine (HD _).mono ?_
                                    rintro e w3 ⟨rfl, hw3⟩
                                    subst hw3
                                    clear HD
                                    go_wp2_with fail
                                    go_meet
                                    exact ⟨by simp, rfl⟩
                                · have hbf : bb = false := by
                                    cases bb with
                                    | false => rfl
                                    | true => have := HBB.out.1 rfl; omega
                                  have hl0' : ((l : Int) == 0) = false := by simp; omega
                                  subst hj0
                                  subst hbf
                                  go_wp2_with fail
                                  go_meet
                                  exact ⟨rfl, rfl⟩
                              · have hbf : bb = false := by
                                  cases bb with
                                  | false => rfl
                                  | true => have := HBB.out.1 rfl; omega
                                have hj0' : ((j : Int) == 0) = false := by simp; omega
                                subst hbf
                                go_wp2_with fail
                                go_meet
                                exact ⟨rfl, rfl⟩
                            case rest =>
                              obtain ⟨rfl, hwx⟩ := hcut
                              subst hwx
                              cases bb with
                              | true =>
                                go_wp2_with fail
                                go_ret
                                exact ⟨rfl, hbel⟩
                              | false =>
                                have HDEL : Hid (j = 0 → l = 0 → ∀ c r, tl = c :: r → Plain.delim c) := by
                                  intro e1 e2 c r e3
                                  have hb := HBB.out
                                  have hm := HM.out
                                  rw [e3] at hb hm
                                  apply Classical.byContradiction
                                  intro e4
                                  have := hb.2 ⟨e1, e2, by rw [hm]; simp, by simpa using e4⟩
                                  simp at this
                                have hBs : B ≤ wc.heap.size := by have := hbel.size; have := HHB.out; omega
                                obtain ⟨G, hG⟩ : ∃ G, wc.heap.size = G := ⟨_, rfl⟩
                                rw [hG] at hBs
                                clear HBB
                                go_wp2_with (at_make; refine wpList_make_own _ rfl (.const (.int .i64 0)) (.tmp 131) 22 rfl B 5 i5 (.int .u8 0) 1 Try.underlying22 hi5 z50 z51 .i64 .i64 _ (q + m) rfl rfl (by omega) (by rw [z52]; omega) (by unfold maxLen; omega) (by omega) ?_; intro w2 hown2 hgr2)
                                have hbel2 : Below B w' w2 := hbel.grown hgr2 (by omega) (by simp)
                                rw [hG] at hown2
                                have hown3 : Own w2 B G (q + m) [] := hown2
                                clear hown2 hgr2 hG hbel
                                go_loopw [15, 16] (fun v u wr => ∃ p : Nat, ∃ ys : List Int, p ≤ l ∧ u = .int .i64 ((p : Int) - 1) ∧ v = .slice (some ⟨G, 0, none⟩) ys.length (q + m) ∧ Hid (ys ++ Plain.opns (wrd wd j) p = Plain.opns (wrd wd j) l) ∧ Own wr B G (q + m) ys ∧ Below B w' wr) (fun _ u _ => (intOf u + 1).toNat)
                                case atStart => exact ⟨l, [], by omega, rfl, rfl, by show _ = _; simp, hown3, hbel2⟩
                                case round =>
                                  clear hown3 hbel2
                                  obtain ⟨p, ys, hp, rfl, rfl, HY, hown, hbel⟩ := hrel
                                  cases p with
                                  | zero =>
                                    rw [show ((0 : Nat) : Int) - 1 = -1 from rfl]
                                    have HY0 : Hid (ys = Plain.opns (wrd wd j) l) := by show _ = _; have := HY.out; simpa [Plain.opns] using this
                                    have hroom : ys.length + c0 ≤ q + m := by have h1 := HY0.out; have h2 := HQ.out; rw [h1]; omega
                                    clear HY
                                    go_upto_if 169 with fail
                                    go_cut [15] from 20 (fun v wx => ∃ zs : List Int, v = .slice (some ⟨G, 0, none⟩) zs.length (q + m) ∧ Hid (zs = ys ++ Plain.core j (bl (wd 0))) ∧ Own wx B G (q + m) zs ∧ Below B w' wx)
                                    case first =>
                                      by_cases hj0 : j = 0
                                      · have HCO : Hid (Plain.core j (bl (wd 0)) = [110, 117, 108, 108]) := by show _ = _; unfold Plain.core; rw [if_pos hj0]
                                        have hr2 : ys.length + 4 ≤ q + m := by have h1 := HC0.out; rw [HCO.out] at h1; simp at h1; omega
                                        have hj0' : ((j : Int) == 0) = true := by simp; exact hj0
                                        clear hj0 hroom
                                        go_wp2_with (first | (at_builtin; refine wpList_append_fits _ rfl (.tmp 170) (.tmp 171) 22 rfl B 5 i5 1 Try.underlying22 hi5 z51 G ys.length (q + m) (ys.map (Value.int .u8)) rfl (hown.alloc _) ⟨wr.heap.size, 0, none⟩ 4 4 [.int .u8 110, .int .u8 117, .int .u8 108, .int .u8 108] rfl rfl (cells_new _ [.int .u8 110, .int .u8 117, .int .u8 108, .int .u8 108] _) (by intro u hu; simp at hu; rcases hu with rfl | rfl | rfl <;> rfl) (by omega) ?_; intro wa howna hgra))
                                        have hoa : Own wa B G (q + m) (ys ++ [110, 117, 108, 108]) := Own.push (xs := ys) (ys := [110, 117, 108, 108]) (n := ys.length) (m := 4) rfl rfl howna
                                        have hba : Below B w' wa := (hbel.alloc (by have := hbel.size; have := HHB.out; omega) _).grown hgra (by have := hbel.size; have := HHB.out; simp; omega) (by intro t ht; simp at ht; omega)
                                        clear howna hgra hown hbel
                                        go_meet
                                        exact ⟨ys ++ [110, 117, 108, 108], by rw [List.length_append]; rfl, by show _ = _; rw [HCO.out], hoa, hba⟩
                                      · have hjp : 0 < j := by omega
                                        obtain ⟨b, o, rfl, hb0, hc⟩ := W0.out 0 hjp
                                        have hcell := (hbel.cell (p := ⟨b, o + 0, none⟩) (by show b < B; have := HHB.out; omega)).trans (hc 0 hjp)
                                        rw [Nat.add_zero] at hcell
                                        have hss : (wd 0).size ≤ 1048576 := HW.out _ hjp
                                        have HCO : Hid (Plain.core j (bl (wd 0)) = [34] ++ Plain.esc (bl (wd 0)) ++ [34]) := by show _ = _; unfold Plain.core; rw [if_neg hj0]
                                        obtain ⟨s, hs⟩ : ∃ s : ByteArray, s = wd 0 := ⟨_, rfl⟩
                                        rw [← hs] at hcell hss HCO
                                        obtain ⟨E, hE⟩ : ∃ E, (Plain.esc (bl s)).length = E := ⟨_, rfl⟩
                                        have HE : Hid ((Plain.esc (bl s)).length = E) := hE
                                        have hr2 : ys.length + 1 + E + 1 ≤ q + m := by have h1 := HC0.out; rw [← hs, HCO.out] at h1; simp at h1; rw [hE] at h1; omega
                                        have hj0' : ((j : Int) == 0) = false := by simp; omega
                                        have hjI : (0 : Int) < (j : Int) := by omega
                                        have HSW : Hid (s = wd 0) := hs
                                        clear hs hE hc hb0 hj0 hroom
                                        go_wp2_with (first | (at_builtin; refine wpList_append_fits _ rfl (.tmp 173) (.tmp 174) 22 rfl B 5 i5 1 Try.underlying22 hi5 z51 G ys.length (q + m) (ys.map (Value.int .u8)) rfl (hown.alloc _) ⟨wr.heap.size, 0, none⟩ 1 1 [.int .u8 34] rfl rfl (cell_one_new _ _ _) (by intro u hu; simp at hu; subst hu; rfl) (by omega) ?_; intro wa howna hgra; have hcella : wa.cell? ⟨b, o, none⟩ = some (.string s) := (((hbel.alloc (by have := hbel.size; have := HHB.out; omega) _).grown hgra (by have := hbel.size; have := HHB.out; simp; omega) (by intro t ht; simp at ht; omega)).cell (p := ⟨b, o, none⟩) (by show b < B; have := HHB.out; have := W0.out 0 hjp; obtain ⟨b', o', e1, e2, _⟩ := this; simp at e1; omega)).trans ((hbel.cell (p := ⟨b, o, none⟩) (by show b < B; have := HHB.out; have := W0.out 0 hjp; obtain ⟨b', o', e1, e2, _⟩ := this; simp at e1; omega)).symm.trans hcell)))
                                        have hoa : Own wa B G (q + m) (ys ++ [34]) := Own.push (xs := ys) (ys := [34]) (n := ys.length) (m := 1) rfl rfl howna
                                        have hba : Below B w' wa := (hbel.alloc (by have := hbel.size; have := HHB.out; omega) _).grown hgra (by have := hbel.size; have := HHB.out; simp; omega) (by intro t ht; simp at ht; omega)
                                        clear howna hgra hown hbel
                                        refine (escape_at B G (q + m) (ys.length + 1) E (ys ++ [34]) s wa (by simp) HE.out hss hoa (by omega)).mono ?_
                                        rintro e wb ⟨rfl, hob, hgrb⟩
                                        have hbb : Below B w' wb := hba.grown hgrb (by have := hba.size; have := HHB.out; omega) (by intro t ht; simp at ht; omega)
                                        have hob' : wb.ownsRow B 5 1 (.slice (some ⟨G, 0, none⟩) (ys.length + 1 + E) (q + m)) (ys.length + 1 + E) ((ys ++ [34] ++ Plain.esc (bl s)).map (Value.int .u8)) := by
                                          have e1 : (ys ++ [34] ++ Plain.esc (bl s)).length = ys.length + 1 + E := by rw [List.length_append, HE.out]; simp
                                          have := hob; unfold Own at this; rw [e1] at this; exact this
                                        clear hoa hba hgrb hob
                                        go_wp2_with (first | (at_builtin; refine wpList_append_fits _ rfl (.tmp 181) (.tmp 182) 22 rfl B 5 i5 1 Try.underlying22 hi5 z51 G (ys.length + 1 + E) (q + m) _ rfl (hob'.alloc _) ⟨wb.heap.size, 0, none⟩ 1 1 [.int .u8 34] rfl rfl (cell_one_new _ _ _) (by intro u hu; simp at hu; subst hu; rfl) (by omega) ?_; intro wd2 hownd hgrd))
                                        have hod : Own wd2 B G (q + m) (ys ++ Plain.core j (bl s)) := by
                                          have hce : Plain.core j (bl s) = [34] ++ Plain.esc (bl s) ++ [34] := by rw [HSW.out]; rw [HSW.out] at HCO; exact HCO.out
                                          rw [hce]
                                          have := Own.push (xs := ys ++ [34] ++ Plain.esc (bl s)) (ys := [34]) (n := ys.length + 1 + E) (m := 1) (by rw [List.length_append, HE.out]; simp) rfl hownd
                                          simpa using this
                                        have hbd : Below B w' wd2 := (hbb.alloc (by have := hbb.size; have := HHB.out; omega) _).grown hgrd (by have := hbb.size; have := HHB.out; simp; omega) (by intro t ht; simp at ht; omega)
                                        clear hownd hgrd hob' hbb
                                        go_meet
                                        exact ⟨ys ++ Plain.core j (bl s), by
                                          have hce : Plain.core j (bl s) = [34] ++ Plain.esc (bl s) ++ [34] := by rw [HSW.out]; rw [HSW.out] at HCO; exact HCO.out
                                          rw [hce, List.length_append, List.length_append, List.length_append, HE.out]; congr 1; simp; omega, by show _ = _; rw [HSW.out], hod, hbd⟩
                                    case rest =>
                                      clear hown hbel hroom
                                      obtain ⟨zs, rfl, HZS, hown, hbel⟩ := hcut
                                      have hroom : zs.length + l ≤ q := by
                                        have h1 := HZS.out; have h2 := HQ.out; have h3 := HC0.out; have h4 := HY0.out
                                        rw [h1, List.length_append, h4, ← h3]; omega
                                      have HZ2 : Hid (zs = Plain.opns (wrd wd j) l ++ Plain.core j (bl (wd 0))) := by show _ = _; rw [HZS.out, HY0.out]
                                      clear HZS HY0
                                      go_wp2_with fail
                                      go_loopw [15, 18] (fun v u wr => ∃ p : Nat, ∃ ys : List Int, p ≤ l ∧ u = .int .i64 p ∧ v = .slice (some ⟨G, 0, none⟩) ys.length (q + m) ∧ Hid (ys = zs ++ Plain.clos p) ∧ Own wr B G (q + m) ys ∧ Below B w' wr) (fun _ u _ => l - (intOf u).toNat)
                                      case atStart => exact ⟨0, zs, by omega, rfl, rfl, by show _ = _; simp [Plain.clos], hown, hbel⟩
                                      case round =>
                                        clear hown hbel
                                        obtain ⟨p, ys, hp, rfl, rfl, HY, hown, hbel⟩ := hrel
                                        by_cases hlt : p < l
                                        ·
                                          have hr2 : ys.length + 1 ≤ q + m := by have h1 := HY.out; rw [h1, List.length_append, Plain.len_clos]; omega
                                          rcases Nat.mod_two_eq_zero_or_one p with hpp | hpp
                                          · have hpar : ((p : Int) % 2 == 0) = true := by simp; omega
                                            have HCL : Hid (Plain.clo p = [93]) := by show _ = _; unfold Plain.clo; rw [if_pos hpp]
                                            clear hpp
                                            go_wp2_with (first | (at_builtin; refine wpList_append_fits _ rfl (.tmp 192) (.tmp 193) 22 rfl B 5 i5 1 Try.underlying22 hi5 z51 G ys.length (q + m) (ys.map (Value.int .u8)) rfl (hown.alloc _) ⟨wr.heap.size, 0, none⟩ 1 1 [.int .u8 93] rfl rfl (cell_one_new _ _ _) (by intro u hu; simp at hu; subst hu; rfl) (by omega) ?_; intro wa howna hgra))
                                            have hoa : Own wa B G (q + m) (ys ++ [93]) := Own.push (xs := ys) (ys := [93]) (n := ys.length) (m := 1) rfl rfl howna
                                            have hba : Below B w' wa := (hbel.alloc (by have := hbel.size; have := HHB.out; omega) _).grown hgra (by have := hbel.size; have := HHB.out; simp; omega) (by intro t ht; simp at ht; omega)
                                            clear howna hgra hown hbel
                                            go_roundw
                                            case rel => exact ⟨p + 1, ys ++ [93], by omega, by go_num, by rw [List.length_append]; rfl, by show _ = _; rw [HY.out, Plain.clos, HCL.out]; simp, hoa, hba⟩
                                            case measure => simp [intOf]; omega
                                          · have hpar : ((p : Int) % 2 == 0) = false := by simp; omega
                                            have HCL : Hid (Plain.clo p = [125]) := by show _ = _; unfold Plain.clo; rw [if_neg (by omega)]
                                            clear hpp
                                            go_wp2_with (first | (at_builtin; refine wpList_append_fits _ rfl (.tmp 195) (.tmp 196) 22 rfl B 5 i5 1 Try.underlying22 hi5 z51 G ys.length (q + m) (ys.map (Value.int .u8)) rfl (hown.alloc _) ⟨wr.heap.size, 0, none⟩ 1 1 [.int .u8 125] rfl rfl (cell_one_new _ _ _) (by intro u hu; simp at hu; subst hu; rfl) (by omega) ?_; intro wa howna hgra))
                                            have hoa : Own wa B G (q + m) (ys ++ [125]) := Own.push (xs := ys) (ys := [125]) (n := ys.length) (m := 1) rfl rfl howna
                                            have hba : Below B w' wa := (hbel.alloc (by have := hbel.size; have := HHB.out; omega) _).grown hgra (by have := hbel.size; have := HHB.out; simp; omega) (by intro t ht; simp at ht; omega)
                                            clear howna hgra hown hbel
                                            go_roundw
                                            case rel => exact ⟨p + 1, ys ++ [125], by omega, by go_num, by rw [List.length_append]; rfl, by show _ = _; rw [HY.out, Plain.clos, HCL.out]; simp, hoa, hba⟩
                                            case measure => simp [intOf]; omega
                                        · have hpl : p = l := by omega
                                          subst hpl
                                          clear hlt hp
                                          have HYB : Hid (ys = Plain.opns (wrd wd j) p ++ Plain.core j (bl (wd 0)) ++ Plain.clos p) := by show _ = _; rw [HY.out, HZ2.out]
                                          have hr2 : ys.length + m ≤ q + m := by have h1 := HY.out; rw [h1, List.length_append, Plain.len_clos]; omega
                                          have hby : Plain.Byt ys := by
                                            rw [HYB.out]
                                            exact ((Plain.byt_opns (byt_wrd wd j) p).append (Plain.byt_core (byt_bl _))).append (Plain.byt_clos p)
                                          have hV := Plain.V_built (wrd wd j) j (bl (wd 0)) p tl (fun e1 e2 b r e3 => HDEL.out e1 e2 b r e3)
                                          rw [← HYB.out] at hV
                                          have HV : Hid (Plain.P (ys ++ tl) 0 ys.length) := hV
                                          have HBY : Hid (Plain.Byt ys) := hby
                                          clear hV hby HY HYB HZ2 HDEL hroom
                                          have HT : Hid (∀ ad, a2 = some ad → ∀ j u, (tl.map (Value.int .u8))[j]? = some u → wr.cell? (ad.add j) = some u) := by
                                            intro ad had t u hu
                                            have ht : t < tl.length := by
                                              have := (List.getElem?_eq_some_iff.1 hu).1
                                              simpa using this
                                            obtain ⟨b, o, e1, e2, e3⟩ := W2.out t ht
                                            rw [e1] at had
                                            simp only [Option.some.injEq] at had
                                            subst had
                                            have e4 := e3 t ht
                                            have e5 := (hbel.cell (p := ⟨b, o + t, none⟩) (by show b < B; have := HHB.out; omega)).trans e4
                                            have hadd : (⟨b, o, none⟩ : Addr).add t = ⟨b, o + t, none⟩ := by unfold Addr.add; split <;> simp_all
                                            rw [hadd, e5]
                                            rw [List.getElem?_map, List.getElem?_eq_getElem ht] at hu
                                            rw [List.getD_eq_getElem?_getD, List.getElem?_eq_getElem ht]
                                            simpa using hu
                                          go_wp2_with (first | (at_builtin; refine wpList_append_fits_any _ rfl (.tmp 200) (.tmp 201) 22 rfl B 5 i5 1 Try.underlying22 hi5 z51 G ys.length (q + m) (ys.map (Value.int .u8)) rfl hown a2 m cap2 (tl.map (Value.int .u8)) rfl (by rw [List.length_map]; have := HM.out; omega) (by have h := HNONE.out; have h' := HM.out; intro e; have := h e; omega) HT.out (ints_oneCell _ _) hr2 ?_; intro wa howna hgra))
                                          have hm' := HM.out
                                          have hoa : Own wa B G (q + m) (ys ++ tl) := Own.push (xs := ys) (ys := tl) (n := ys.length) (m := m) rfl hm' howna
                                          have hba : Below B w' wa := hbel.grown hgra (by have := hbel.size; have := HHB.out; omega) (by intro t ht; simp at ht; omega)
                                          have htx : Txt wa G 0 (ys ++ tl) := by
                                            refine ⟨fun i hi => ?_, fun i => ?_⟩
                                            · have h1 := hoa.cellAt i (by omega)
                                              rw [Nat.zero_add, h1, List.getElem?_map, List.getElem?_eq_getElem hi, List.getD_eq_getElem?_getD, List.getElem?_eq_getElem hi]
                                              rfl
                                            · exact (HBY.out.append (byt_of_getD HB2.out)).getD i
                                          have hlen : (ys ++ tl).length = ys.length + m := by rw [List.length_append, hm']
                                          have HC := zzValueSize_any G 0 (ys.length + m) (q + m) (ys ++ tl) ys.length wa hlen hr2 (by omega) htx (HV.out _ (by omega))
                                          clear howna hgra hown hbel hoa htx hlen hm' HT
                                          refine HC.mono ?_
                                          rintro e w5 ⟨rfl, hw5⟩
                                          subst hw5
                                          clear HC
                                          go_wp2_with fail
                                          go_ret
                                          exact ⟨by simp, hba⟩
                                  | succ p =>
                                    rw [show ((p + 1 : Nat) : Int) - 1 = (p : Int) from by omega]
                                    by_cases hj0 : j = 0
                                    · have hwr : wrd wd j p = bl ⟨#[]⟩ := by unfold wrd; rw [if_pos hj0]; rfl
                                      obtain ⟨s, hs⟩ : ∃ s : ByteArray, s = ⟨#[]⟩ := ⟨_, rfl⟩
                                      have hss : s.size ≤ 1048576 := by rw [hs]; decide
                                      rw [← hs] at hwr
                                      have HWR : Hid (wrd wd j p = bl s) := hwr
                                      obtain ⟨E, hE⟩ : ∃ E, (Plain.esc (bl s)).length = E := ⟨_, rfl⟩
                                      have HE : Hid ((Plain.esc (bl s)).length = E) := hE
                                      have hroom : ys.length + 2 + E + 2 ≤ q + m := by
                                        have h1 := congrArg List.length HY.out
                                        rw [List.length_append, Plain.opns, List.length_append, Plain.len_opn, HWR.out, hE] at h1
                                        have h2 := HQ.out
                                        omega
                                      clear hE hwr
                                      rcases Nat.mod_two_eq_zero_or_one p with hpp | hpp
                                      · have hpar : ((p : Int) % 2 == 0) = true := by simp; omega
                                        have hj0' : ¬ ((0 : Int) < (j : Int)) := by omega
                                        clear hj0
                                        have HOP : Hid (Plain.opn (wrd wd j) p = [91, 34] ++ Plain.esc (bl s) ++ [34, 44]) := by show _ = _; unfold Plain.opn; rw [HWR.out]; simp [hpp]
                                        clear hpp
                                        subst hs
                                        go_wp2_with (first | (at_builtin; refine wpList_append_fits _ rfl (.tmp 150) (.tmp 151) 22 rfl B 5 i5 1 Try.underlying22 hi5 z51 G ys.length (q + m) (ys.map (Value.int .u8)) rfl (hown.alloc _) ⟨wr.heap.size, 0, none⟩ 2 2 [.int .u8 91, .int .u8 34] rfl rfl (cells_new _ [.int .u8 91, .int .u8 34] _) (by intro u hu; simp at hu; rcases hu with rfl | rfl <;> rfl) (by omega) ?_; intro wa howna hgra))
                                        have hoa : Own wa B G (q + m) (ys ++ [91, 34]) := Own.push (xs := ys) (ys := [91, 34]) (n := ys.length) (m := 2) rfl rfl howna
                                        have hba : Below B w' wa := (hbel.alloc (by have := hbel.size; have := HHB.out; omega) _).grown hgra (by have := hbel.size; have := HHB.out; simp; omega) (by intro t ht; simp at ht; omega)
                                        clear howna hgra hown hbel
                                        refine (escape_at B G (q + m) (ys.length + 2) E (ys ++ [91, 34]) ⟨#[]⟩ wa (by simp) HE.out hss hoa (by omega)).mono ?_
                                        rintro e wb ⟨rfl, hob, hgrb⟩
                                        have hbb : Below B w' wb := hba.grown hgrb (by have := hba.size; have := HHB.out; omega) (by intro t ht; simp at ht; omega)
                                        have hob' : wb.ownsRow B 5 1 (.slice (some ⟨G, 0, none⟩) (ys.length + 2 + E) (q + m)) (ys.length + 2 + E) ((ys ++ [91, 34] ++ Plain.esc (bl ⟨#[]⟩)).map (Value.int .u8)) := by
                                          have e1 : (ys ++ [91, 34] ++ Plain.esc (bl ⟨#[]⟩)).length = ys.length + 2 + E := by rw [List.length_append, HE.out]; simp
                                          have := hob; unfold Own at this; rw [e1] at this; exact this
                                        clear hoa hba hgrb hob
                                        go_wp2_with (first | (at_builtin; refine wpList_append_fits _ rfl (.tmp 162) (.tmp 163) 22 rfl B 5 i5 1 Try.underlying22 hi5 z51 G (ys.length + 2 + E) (q + m) _ rfl (hob'.alloc _) ⟨wb.heap.size, 0, none⟩ 2 2 [.int .u8 34, .int .u8 44] rfl rfl (cells_new _ [.int .u8 34, .int .u8 44] _) (by intro u hu; simp at hu; rcases hu with rfl | rfl <;> rfl) (by omega) ?_; intro wd2 hownd hgrd))
                                        have hod : Own wd2 B G (q + m) (ys ++ Plain.opn (wrd wd j) p) := by
                                          rw [HOP.out]
                                          have := Own.push (xs := ys ++ [91, 34] ++ Plain.esc (bl ⟨#[]⟩)) (ys := [34, 44]) (n := ys.length + 2 + E) (m := 2) (by rw [List.length_append, HE.out]; simp) rfl hownd
                                          simpa using this
                                        have hbd : Below B w' wd2 := (hbb.alloc (by have := hbb.size; have := HHB.out; omega) _).grown hgrd (by have := hbb.size; have := HHB.out; simp; omega) (by intro t ht; simp at ht; omega)
                                        clear hownd hgrd hob' hbb
                                        go_roundw
                                        case rel => exact ⟨p, ys ++ Plain.opn (wrd wd j) p, by omega, rfl, by rw [List.length_append, Plain.len_opn, HWR.out, HE.out]; congr 1; omega, by show _ = _; rw [← HY.out, Plain.opns]; simp, hod, hbd⟩
                                        case measure => simp [intOf]
                                      · have hpar : ((p : Int) % 2 == 0) = false := by simp; omega
                                        have hj0' : ¬ ((0 : Int) < (j : Int)) := by omega
                                        clear hj0
                                        have HOP : Hid (Plain.opn (wrd wd j) p = [123, 34] ++ Plain.esc (bl s) ++ [34, 58]) := by show _ = _; unfold Plain.opn; rw [HWR.out]; simp [hpp]
                                        clear hpp
                                        subst hs
                                        go_wp2_with (first | (at_builtin; refine wpList_append_fits _ rfl (.tmp 153) (.tmp 154) 22 rfl B 5 i5 1 Try.underlying22 hi5 z51 G ys.length (q + m) (ys.map (Value.int .u8)) rfl (hown.alloc _) ⟨wr.heap.size, 0, none⟩ 2 2 [.int .u8 123, .int .u8 34] rfl rfl (cells_new _ [.int .u8 123, .int .u8 34] _) (by intro u hu; simp at hu; rcases hu with rfl | rfl <;> rfl) (by omega) ?_; intro wa howna hgra))
                                        have hoa : Own wa B G (q + m) (ys ++ [123, 34]) := Own.push (xs := ys) (ys := [123, 34]) (n := ys.length) (m := 2) rfl rfl howna
                                        have hba : Below B w' wa := (hbel.alloc (by have := hbel.size; have := HHB.out; omega) _).grown hgra (by have := hbel.size; have := HHB.out; simp; omega) (by intro t ht; simp at ht; omega)
                                        clear howna hgra hown hbel
                                        refine (escape_at B G (q + m) (ys.length + 2) E (ys ++ [123, 34]) ⟨#[]⟩ wa (by simp) HE.out hss hoa (by omega)).mono ?_
                                        rintro e wb ⟨rfl, hob, hgrb⟩
                                        have hbb : Below B w' wb := hba.grown hgrb (by have := hba.size; have := HHB.out; omega) (by intro t ht; simp at ht; omega)
                                        have hob' : wb.ownsRow B 5 1 (.slice (some ⟨G, 0, none⟩) (ys.length + 2 + E) (q + m)) (ys.length + 2 + E) ((ys ++ [123, 34] ++ Plain.esc (bl ⟨#[]⟩)).map (Value.int .u8)) := by
                                          have e1 : (ys ++ [123, 34] ++ Plain.esc (bl ⟨#[]⟩)).length = ys.length + 2 + E := by rw [List.length_append, HE.out]; simp
                                          have := hob; unfold Own at this; rw [e1] at this; exact this
                                        clear hoa hba hgrb hob
                                        go_wp2_with (first | (at_builtin; refine wpList_append_fits _ rfl (.tmp 165) (.tmp 166) 22 rfl B 5 i5 1 Try.underlying22 hi5 z51 G (ys.length + 2 + E) (q + m) _ rfl (hob'.alloc _) ⟨wb.heap.size, 0, none⟩ 2 2 [.int .u8 34, .int .u8 58] rfl rfl (cells_new _ [.int .u8 34, .int .u8 58] _) (by intro u hu; simp at hu; rcases hu with rfl | rfl <;> rfl) (by omega) ?_; intro wd2 hownd hgrd))
                                        have hod : Own wd2 B G (q + m) (ys ++ Plain.opn (wrd wd j) p) := by
                                          rw [HOP.out]
                                          have := Own.push (xs := ys ++ [123, 34] ++ Plain.esc (bl ⟨#[]⟩)) (ys := [34, 58]) (n := ys.length + 2 + E) (m := 2) (by rw [List.length_append, HE.out]; simp) rfl hownd
                                          simpa using this
                                        have hbd : Below B w' wd2 := (hbb.alloc (by have := hbb.size; have := HHB.out; omega) _).grown hgrd (by have := hbb.size; have := HHB.out; simp; omega) (by intro t ht; simp at ht; omega)
                                        clear hownd hgrd hob' hbb
                                        go_roundw
                                        case rel => exact ⟨p, ys ++ Plain.opn (wrd wd j) p, by omega, rfl, by rw [List.length_append, Plain.len_opn, HWR.out, HE.out]; congr 1; omega, by show _ = _; rw [← HY.out, Plain.opns]; simp, hod, hbd⟩
                                        case measure => simp [intOf]
                                    · have hjp : 0 < j := by omega
                                      have hlj : p % j < j := Nat.mod_lt _ hjp
                                      obtain ⟨b, o, rfl, hb0, hc⟩ := W0.out (p % j) hlj
                                      have hcell := (hbel.cell (p := ⟨b, o + p % j, none⟩) (by show b < B; have := HHB.out; omega)).trans (hc (p % j) hlj)
                                      obtain ⟨s, hs⟩ : ∃ s : ByteArray, s = wd (p % j) := ⟨_, rfl⟩
                                      have hwr : wrd wd j p = bl s := by unfold wrd; rw [if_neg hj0, hs]
                                      have hss : s.size ≤ 1048576 := by rw [hs]; exact HW.out _ hlj
                                      rw [← hs] at hcell
                                      have hjI : (0 : Int) < (j : Int) := by omega
                                      have hne : ((j : Int) == 0) = false := by simp; omega
                                      clear hs hc hb0 hj0
                                      have HWR : Hid (wrd wd j p = bl s) := hwr
                                      obtain ⟨E, hE⟩ : ∃ E, (Plain.esc (bl s)).length = E := ⟨_, rfl⟩
                                      have HE : Hid ((Plain.esc (bl s)).length = E) := hE
                                      have hroom : ys.length + 2 + E + 2 ≤ q + m := by
                                        have h1 := congrArg List.length HY.out
                                        rw [List.length_append, Plain.opns, List.length_append, Plain.len_opn, HWR.out, hE] at h1
                                        have h2 := HQ.out
                                        omega
                                      clear hE hwr
                                      rcases Nat.mod_two_eq_zero_or_one p with hpp | hpp
                                      · have hpar : ((p : Int) % 2 == 0) = true := by simp; omega
                                        have HOP : Hid (Plain.opn (wrd wd j) p = [91, 34] ++ Plain.esc (bl s) ++ [34, 44]) := by show _ = _; unfold Plain.opn; rw [HWR.out]; simp [hpp]
                                        clear hpp
                                        go_wp2_with (first | (at_builtin; refine wpList_append_fits _ rfl (.tmp 150) (.tmp 151) 22 rfl B 5 i5 1 Try.underlying22 hi5 z51 G ys.length (q + m) (ys.map (Value.int .u8)) rfl (hown.alloc _) ⟨wr.heap.size, 0, none⟩ 2 2 [.int .u8 91, .int .u8 34] rfl rfl (cells_new _ [.int .u8 91, .int .u8 34] _) (by intro u hu; simp at hu; rcases hu with rfl | rfl <;> rfl) (by omega) ?_; intro wa howna hgra))
                                        have hoa : Own wa B G (q + m) (ys ++ [91, 34]) := Own.push (xs := ys) (ys := [91, 34]) (n := ys.length) (m := 2) rfl rfl howna
                                        have hba : Below B w' wa := (hbel.alloc (by have := hbel.size; have := HHB.out; omega) _).grown hgra (by have := hbel.size; have := HHB.out; simp; omega) (by intro t ht; simp at ht; omega)
                                        clear howna hgra hown hbel
                                        refine (escape_at B G (q + m) (ys.length + 2) E (ys ++ [91, 34]) s wa (by simp) HE.out hss hoa (by omega)).mono ?_
                                        rintro e wb ⟨rfl, hob, hgrb⟩
                                        have hbb : Below B w' wb := hba.grown hgrb (by have := hba.size; have := HHB.out; omega) (by intro t ht; simp at ht; omega)
                                        have hob' : wb.ownsRow B 5 1 (.slice (some ⟨G, 0, none⟩) (ys.length + 2 + E) (q + m)) (ys.length + 2 + E) ((ys ++ [91, 34] ++ Plain.esc (bl s)).map (Value.int .u8)) := by
                                          have e1 : (ys ++ [91, 34] ++ Plain.esc (bl s)).length = ys.length + 2 + E := by rw [List.length_append, HE.out]; simp
                                          have := hob; unfold Own at this; rw [e1] at this; exact this
                                        clear hoa hba hgrb hob
                                        go_wp2_with (first | (at_builtin; refine wpList_append_fits _ rfl (.tmp 162) (.tmp 163) 22 rfl B 5 i5 1 Try.underlying22 hi5 z51 G (ys.length + 2 + E) (q + m) _ rfl (hob'.alloc _) ⟨wb.heap.size, 0, none⟩ 2 2 [.int .u8 34, .int .u8 44] rfl rfl (cells_new _ [.int .u8 34, .int .u8 44] _) (by intro u hu; simp at hu; rcases hu with rfl | rfl <;> rfl) (by omega) ?_; intro wd2 hownd hgrd))
                                        have hod : Own wd2 B G (q + m) (ys ++ Plain.opn (wrd wd j) p) := by
                                          rw [HOP.out]
                                          have := Own.push (xs := ys ++ [91, 34] ++ Plain.esc (bl s)) (ys := [34, 44]) (n := ys.length + 2 + E) (m := 2) (by rw [List.length_append, HE.out]; simp) rfl hownd
                                          simpa using this
                                        have hbd : Below B w' wd2 := (hbb.alloc (by have := hbb.size; have := HHB.out; omega) _).grown hgrd (by have := hbb.size; have := HHB.out; simp; omega) (by intro t ht; simp at ht; omega)
                                        clear hownd hgrd hob' hbb
                                        go_roundw
                                        case rel => exact ⟨p, ys ++ Plain.opn (wrd wd j) p, by omega, rfl, by rw [List.length_append, Plain.len_opn, HWR.out, HE.out]; congr 1; omega, by show _ = _; rw [← HY.out, Plain.opns]; simp, hod, hbd⟩
                                        case measure => simp [intOf]
                                      · have hpar : ((p : Int) % 2 == 0) = false := by simp; omega
                                        have HOP : Hid (Plain.opn (wrd wd j) p = [123, 34] ++ Plain.esc (bl s) ++ [34, 58]) := by show _ = _; unfold Plain.opn; rw [HWR.out]; simp [hpp]
                                        clear hpp
                                        go_wp2_with (first | (at_builtin; refine wpList_append_fits _ rfl (.tmp 153) (.tmp 154) 22 rfl B 5 i5 1 Try.underlying22 hi5 z51 G ys.length (q + m) (ys.map (Value.int .u8)) rfl (hown.alloc _) ⟨wr.heap.size, 0, none⟩ 2 2 [.int .u8 123, .int .u8 34] rfl rfl (cells_new _ [.int .u8 123, .int .u8 34] _) (by intro u hu; simp at hu; rcases hu with rfl | rfl <;> rfl) (by omega) ?_; intro wa howna hgra))
                                        have hoa : Own wa B G (q + m) (ys ++ [123, 34]) := Own.push (xs := ys) (ys := [123, 34]) (n := ys.length) (m := 2) rfl rfl howna
                                        have hba : Below B w' wa := (hbel.alloc (by have := hbel.size; have := HHB.out; omega) _).grown hgra (by have := hbel.size; have := HHB.out; simp; omega) (by intro t ht; simp at ht; omega)
                                        clear howna hgra hown hbel
                                        refine (escape_at B G (q + m) (ys.length + 2) E (ys ++ [123, 34]) s wa (by simp) HE.out hss hoa (by omega)).mono ?_
                                        rintro e wb ⟨rfl, hob, hgrb⟩
                                        have hbb : Below B w' wb := hba.grown hgrb (by have := hba.size; have := HHB.out; omega) (by intro t ht; simp at ht; omega)
                                        have hob' : wb.ownsRow B 5 1 (.slice (some ⟨G, 0, none⟩) (ys.length + 2 + E) (q + m)) (ys.length + 2 + E) ((ys ++ [123, 34] ++ Plain.esc (bl s)).map (Value.int .u8)) := by
                                          have e1 : (ys ++ [123, 34] ++ Plain.esc (bl s)).length = ys.length + 2 + E := by rw [List.length_append, HE.out]; simp
                                          have := hob; unfold Own at this; rw [e1] at this; exact this
                                        clear hoa hba hgrb hob
                                        go_wp2_with (first | (at_builtin; refine wpList_append_fits _ rfl (.tmp 165) (.tmp 166) 22 rfl B 5 i5 1 Try.underlying22 hi5 z51 G (ys.length + 2 + E) (q + m) _ rfl (hob'.alloc _) ⟨wb.heap.size, 0, none⟩ 2 2 [.int .u8 34, .int .u8 58] rfl rfl (cells_new _ [.int .u8 34, .int .u8 58] _) (by intro u hu; simp at hu; rcases hu with rfl | rfl <;> rfl) (by omega) ?_; intro wd2 hownd hgrd))
                                        have hod : Own wd2 B G (q + m) (ys ++ Plain.opn (wrd wd j) p) := by
                                          rw [HOP.out]
                                          have := Own.push (xs := ys ++ [123, 34] ++ Plain.esc (bl s)) (ys := [34, 58]) (n := ys.length + 2 + E) (m := 2) (by rw [List.length_append, HE.out]; simp) rfl hownd
                                          simpa using this
                                        have hbd : Below B w' wd2 := (hbb.alloc (by have := hbb.size; have := HHB.out; omega) _).grown hgrd (by have := hbb.size; have := HHB.out; simp; omega) (by intro t ht; simp at ht; omega)
                                        clear hownd hgrd hob' hbb
                                        go_roundw
                                        case rel => exact ⟨p, ys ++ Plain.opn (wrd wd j) p, by omega, rfl, by rw [List.length_append, Plain.len_opn, HWR.out, HE.out]; congr 1; omega, by show _ = _; rw [← HY.out, Plain.opns]; simp, hod, hbd⟩
                                        case measure => simp [intOf]
                · go_wp2_with fail
                  go_ret
                  exact ⟨rfl, Below.refl _ _⟩
              · go_wp2_with fail
                go_ret
                exact ⟨rfl, Below.refl _ _⟩
            · go_wp2_with fail
              go_ret
              exact ⟨rfl, Below.refl _ _⟩
    · go_enter Try.func8, Try.ntmps8
      go_wp2_with fail
      refine HZ.mono ?_
      rintro e w' ⟨⟨r, rfl⟩, hw'⟩
      subst hw'
      clear HZ
      cases r with
      | false =>
        go_wp2_with fail
        go_ret
        exact ⟨rfl, Below.refl _ _⟩
      | true =>
        go_wp2_with fail
        go_ret
        exact ⟨rfl, Below.refl _ _⟩
  · go_enter Try.func8, Try.ntmps8
    go_wp2_with fail
    refine HZ.mono ?_
    rintro e w' ⟨⟨r, rfl⟩, hw'⟩
    subst hw'
    clear HZ
    cases r with
    | false =>
      go_wp2_with fail
      go_ret
      exact ⟨rfl, Below.refl _ _⟩
    | true =>
      go_wp2_with fail
      go_ret
      exact ⟨rfl, Below.refl _ _⟩

end Go.Proofs.Qxb6000722a
