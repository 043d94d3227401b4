/-
  THE WALK of FnLeadingIntegersReadsBackRenderedList.
-/
import Derived.Test.Qxb6001245aSmall
import Derived.Below
import Derived.Deep.QuietTactic
import Derived.BigQuiet
namespace Go.Proofs.Qxb6001245a
open Go.RowKit

theorem Own.txt {w : World} {base g cap : Nat} {xs : List Int} (h : Own w base g cap xs) (hb : Plain.Byt xs) : Txt w g 0 xs := by
  refine ⟨fun i hi => ?_, fun i => ?_⟩
  · have h1 := h.cellAt i (by omega)
    rw [Nat.zero_add, h1, List.getElem?_map, List.getElem?_eq_getElem hi, List.getD_eq_getElem?_getD, List.getElem?_eq_getElem hi]
    rfl
  · by_cases hi : i < xs.length
    · exact hb _ (mem_getD hi)
    · rw [List.getD_eq_getElem?_getD, List.getElem?_eq_none (by omega)]; simp

theorem appDec (base g cap n : Nat) (xs : List Int) (v : Int) (w : World) (hv0 : -9223372036854775808 ≤ v) (hv1 : v ≤ 9223372036854775807) (hn : xs.length = n) (hown : Own w base g cap xs) (hfit : n + 20 ≤ cap) :
    Calls Try.prog 11 #[.slice (some ⟨g, 0, none⟩) n cap, .int .i64 v] w fun e w' =>
      e = .returned (.slice (some ⟨g, 0, none⟩) (n + (Plain.dec v).length) cap) ∧ Own w' base g cap (xs ++ Plain.dec v) ∧ w.grownBy w' (some g) := by
  by_cases h : v < 0
  · exact appDec_neg base g cap n xs v w h hv0 hn hown hfit
  · exact appDec_pos base g cap n xs v w (by omega) hv1 hn hown hfit

set_option maxRecDepth 100000 in
set_option maxHeartbeats 4000000 in
theorem main6 (a0 : Option Addr) (n0 c0 : Nat) (P : List Int) (a1 : Option Addr) (n1 c1 : Nat) (X : List Int) (a2 : Option Addr) (n2 c2 : Nat) (G : List Int) (a3 : Option Addr) (n3 c3 : Nat) (T : List Int) (w : World)
    (l0 : P.length = n0) (l1 : X.length = n1) (l2 : G.length = n2) (l3 : T.length = n3) (t0 : Tl .u8 w a0 P) (t1 : Tl .i64 w a1 X) (t2 : Tl .u8 w a2 G) (t3 : Tl .u8 w a3 T)
    (o0 : a0 = none → n0 = 0 ∧ c0 = 0) (o1 : a1 = none → n1 = 0 ∧ c1 = 0) (o2 : a2 = none → n2 = 0 ∧ c2 = 0) (o3 : a3 = none → n3 = 0 ∧ c3 = 0)
    (y0 : Plain.Byt P) (y1 : ∀ y ∈ X, -9223372036854775808 ≤ y ∧ y ≤ 9223372036854775807) (y2 : Plain.Byt G) (y3 : Plain.Byt T)
    (m0 : n0 ≤ 9223372036854775807) (m1 : n1 ≤ 9223372036854775807) (m2 : n2 ≤ 9223372036854775807) (m3 : n3 ≤ 9223372036854775807) :
    Calls Try.prog 6 #[.slice a0 n0 c0, .slice a1 n1 c1, .slice a2 n2 c2, .slice a3 n3 c3] w fun e w' => e = .returned (.bool true) ∧ Below w.heap.size w w' := by
  have CZ := zz16 a0 n0 c0 a1 n1 c1 a2 n2 c2 a3 n3 c3 w m0 m1 m2 m3
  have HO0 : Hid (a0 = none → n0 = 0 ∧ c0 = 0) := o0
  have HO1 : Hid (a1 = none → n1 = 0 ∧ c1 = 0) := o1
  have HO2 : Hid (a2 = none → n2 = 0 ∧ c2 = 0) := o2
  have HO3 : Hid (a3 = none → n3 = 0 ∧ c3 = 0) := o3
  have HT0 : Hid (Tl .u8 w a0 P) := t0
  have HT1 : Hid (Tl .i64 w a1 X) := t1
  have HT2 : Hid (Tl .u8 w a2 G) := t2
  have HT3 : Hid (Tl .u8 w a3 T) := t3
  have HL0 : Hid (P.length = n0) := l0
  have HL1 : Hid (X.length = n1) := l1
  have HL2 : Hid (G.length = n2) := l2
  have HL3 : Hid (T.length = n3) := l3
  have HY0 : Hid (Plain.Byt P) := y0
  have HY1 : Hid (∀ y ∈ X, -9223372036854775808 ≤ y ∧ y ≤ 9223372036854775807) := y1
  have HY2 : Hid (Plain.Byt G) := y2
  have HY3 : Hid (Plain.Byt T) := y3
  clear o0 o1 o2 o3 t0 t1 t2 t3 l0 l1 l2 l3 y0 y1 y2 y3
  by_cases g0 : n0 ≤ 262144
  · skip
    by_cases g1 : n1 ≤ 32768
    · skip
      by_cases g2 : n2 ≤ 4096
      · skip
        by_cases g3 : n3 ≤ 262144
        · skip
          obtain ⟨S, hS⟩ : ∃ S, S = 2 * n2 + 22 := ⟨_, rfl⟩
          obtain ⟨PR, hPR⟩ : ∃ PR, PR = (n1 + 1) * S := ⟨_, rfl⟩
          have hPRb : PR ≤ 269164566 := by have := Nat.mul_le_mul (show n1 + 1 ≤ 32769 by omega) (show S ≤ 8214 by omega); rw [hPR]; exact this
          have HPR : wrap64 (((n1 : Int) + 1) * (2 * (n2 : Int) + 22)) = (PR : Int) := by
            have : ((n1 : Int) + 1) * (2 * (n2 : Int) + 22) = (PR : Int) := by rw [hPR, hS]; push_cast; rfl
            rw [this]; unfold wrap64; omega
          have HPRb : Hid (PR ≤ 269164566) := hPRb
          clear hPRb
          have HPE : Hid (PR = n1 * S + S) := by show _ = _; rw [hPR, Nat.succ_mul]
          have HSE : Hid (S = 2 * n2 + 22) := hS
          clear hPR hS
          by_cases g4 : PR ≤ 67108864
          · skip
            have hdl : decide ((67108864 : Int) < (PR : Int)) = false := by simp; omega
            have HG4 : Hid (PR ≤ 67108864) := g4
            clear g4
            go_enter Try.func6, Try.ntmps6
            go_wp2_with fail
            refine CZ.mono ?_
            rintro e w1 ⟨⟨r, he⟩, hw1⟩
            subst hw1
            clear CZ
            rw [he]
            clear he
            cases r
            · go_wp2_with fail
              go_ret
              exact ⟨rfl, Below.refl _ _⟩
            go_wp2_with fail
            have HHPR : Hid (wrap64 (((n1 : Int) + 1) * (2 * (n2 : Int) + 22)) = (PR : Int)) := HPR
            clear HPR hdl
            go_loop [9] (fun u => ∃ k : Nat, k ≤ n2 ∧ u = .int .i64 k ∧ Hid (∀ i, i < k → Plain.spc (G.getD i 0))) (fun u => n2 - (intOf u).toNat)
            case atStart => exact ⟨0, by omega, rfl, fun i hi => by omega⟩
            case round =>
              obtain ⟨k, hk, rfl, HS⟩ := hrel
              by_cases hlt : k < n2
              · obtain ⟨b, o, ha2, hcell0⟩ := HT2.out k (by rw [HL2.out]; exact hlt)
                have hcell := hcell0 k (by rw [HL2.out]; exact hlt)
                clear hcell0
                subst ha2
                obtain ⟨z, hz⟩ : ∃ z, z = G.getD k 0 := ⟨_, rfl⟩
                rw [← hz] at hcell
                by_cases hsp : Plain.spc z
                · have CS := isSpace_yes z w1 hsp
                  have HS' : Hid (∀ i, i < k + 1 → Plain.spc (G.getD i 0)) := by
                    intro i hi
                    by_cases e : i = k
                    · rw [e, ← hz]; exact hsp
                    · exact HS.out i (by omega)
                  clear hsp HS hz
                  go_wp2_with fail
                  refine CS.mono ?_
                  rintro e w2 ⟨he, hw2⟩
                  rw [he]
                  subst hw2
                  clear CS he
                  go_wp2_with fail
                  go_round
                  case rel => exact ⟨k + 1, by omega, by go_num, HS'.out⟩
                  case measure => simp [intOf]; omega
                · have CS := isSpace_no z w1 hsp
                  clear hsp HS hz
                  go_wp2_with fail
                  refine CS.mono ?_
                  rintro e w2 ⟨he, hw2⟩
                  rw [he]
                  subst hw2
                  clear CS he
                  go_wp2_with fail
                  go_ret
                  exact ⟨rfl, Below.refl _ _⟩
              · have HSP : Hid (∀ x ∈ G, Plain.spc x) := by
                  intro x hx
                  obtain ⟨i, hi, rfl⟩ := List.getElem_of_mem hx
                  have := HS.out i (by have := HL2.out; omega)
                  rw [List.getD_eq_getElem?_getD, List.getElem?_eq_getElem hi] at this
                  exact this
                clear HS
                go_wp2_with fail
                have CA := clone8 a0 n0 c0 P w1 HL0.out (by omega) HT0.out HO0.out
                refine CA.mono ?_
                rintro e wA ⟨a0', c0', he, tA, oA, gA⟩
                rw [he]
                clear CA he
                go_wp2_with fail
                have CB := clone64 a1 n1 c1 X wA HL1.out (by omega) (HT1.out.kept gA) HO1.out
                refine CB.mono ?_
                rintro e wB ⟨a1', c1', he, tB, oB, gB⟩
                rw [he]
                clear CB he
                go_wp2_with fail
                have CC := clone8 a2 n2 c2 G wB HL2.out (by omega) ((HT2.out.kept gA).kept gB) HO2.out
                refine CC.mono ?_
                rintro e wC ⟨a2', c2', he, tC, oC, gC⟩
                rw [he]
                clear CC he
                go_wp2_with fail
                have CD := clone8 a3 n3 c3 T wC HL3.out (by omega) (((HT3.out.kept gA).kept gB).kept gC) HO3.out
                refine CD.mono ?_
                rintro e wD ⟨a3', c3', he, tD, oD, gD⟩
                rw [he]
                clear CD he
                have gAD : w1.grownBy wD none := ((gA.trans gB).trans gC).trans gD
                have HTA : Hid (Tl .u8 wD a0' P) := ((tA.kept gB).kept gC).kept gD
                have HTB : Hid (Tl .i64 wD a1' X) := (tB.kept gC).kept gD
                have HTC : Hid (Tl .u8 wD a2' G) := tC.kept gD
                have HTD : Hid (Tl .u8 wD a3' T) := tD
                have HOA : Hid (a0' = none → n0 = 0 ∧ c0' = 0) := oA
                have HOB : Hid (a1' = none → n1 = 0 ∧ c1' = 0) := oB
                have HOC : Hid (a2' = none → n2 = 0 ∧ c2' = 0) := oC
                have HOD : Hid (a3' = none → n3 = 0 ∧ c3' = 0) := oD
                clear tA tB tC tD oA oB oC oD gA gB gC gD HO0 HO1 HO2 HO3 HT0 HT1 HT2 HT3
                have HPR := HHPR.out
                have hPRb := HG4.out
                obtain ⟨CAP, hCAP⟩ : ∃ CAP, CAP = n0 + n3 + PR := ⟨_, rfl⟩
                have HCAP : Hid (CAP = n0 + n3 + PR) := hCAP
                clear hCAP
                obtain ⟨i5, hi5, z50, z51, z52⟩ := info_parts info5
                go_wp2_with (first
                  | (at_make; refine wpList_make_own _ rfl (.const (.int .i64 0)) (.tmp 78) 22 rfl wD.heap.size 5 i5 (.int .u8 0) 1 Try.underlying22 hi5 z50 z51 .i64 .i64 _ CAP rfl rfl (by have := HCAP.out; omega) (by have := HCAP.out; rw [z52]; omega) (by have := HCAP.out; unfold maxLen; omega) (by omega) ?_; intro wE hownE hgrE
                     obtain ⟨B, hB⟩ : ∃ B, wD.heap.size = B := ⟨_, rfl⟩
                     rw [hB] at hownE ⊢
                     obtain ⟨N1, hN1⟩ : ∃ N1, N1 = n1 * S := ⟨_, rfl⟩
                     have hcap : n0 + n3 + N1 + 2 * n2 + 22 ≤ CAP := (by have h0 := HCAP.out; have h1 := HPE.out; have h2 := HSE.out; omega)
                     have hcapB : CAP ≤ 67633152 := (by have h0 := HCAP.out; omega)
                     have HN1 : Hid (N1 = n1 * S) := hN1
                     clear hN1 HPR hPRb)
                  | (at_builtin; refine wpList_append_fits_any _ rfl (.tmp 80) (.tmp 81) 22 rfl B 5 i5 1 Try.underlying22 hi5 z51 B 0 CAP [] rfl hownE a0' n0 c0' (P.map (Value.int .u8)) rfl (by rw [List.length_map, HL0.out, Nat.mul_one]) HOA.out ((HTA.out.kept hgrE).news) (ints_oneCell .u8 P) (by omega) ?_; intro w5 hown5 hgr5
                     have ho5 : Own w5 B B CAP P := (by have := hown5; rw [Nat.zero_add, List.nil_append, ← HL0.out] at this; exact this)
                     have g5 : wD.grownBy w5 none := hgrE.andThen hgr5 (fun j hj => .inl (by simp at hj; omega))
                     rw [Nat.zero_add]
                     clear hown5 hgr5 hownE hgrE)
                  | (at_builtin; refine wpList_append_fits _ rfl (.tmp 85) (.tmp 86) 22 rfl B 5 i5 1 Try.underlying22 hi5 z51 B n0 CAP (P.map (Value.int .u8)) rfl ((ho5.at HL0.out).alloc _) ⟨w5.heap.size, 0, none⟩ 1 1 [.int .u8 91] rfl rfl (cell_one_new _ _ _) (by intro u hu; simp at hu; subst hu; rfl) (by omega) ?_; intro w6 hown6 hgr6
                     have ho6 : Own w6 B B CAP (P ++ [91]) := Own.push (xs := P) (ys := [91]) HL0.out.symm rfl hown6
                     have g6 : wD.grownBy w6 none := (g5.trans (World.grownBy_alloc _ _ _)).andThen hgr6 (fun j hj => .inl (by simp at hj; omega))
                     have HL6 : Hid ((P ++ [91]).length = n0 + 1) := (by show _ = _; rw [List.length_append, HL0.out]; rfl)
                     clear hown6 hgr6 ho5 g5)
                  | (at_builtin; refine wpList_append_fits_any _ rfl (.tmp 88) (.tmp 89) 22 rfl B 5 i5 1 Try.underlying22 hi5 z51 B (n0 + 1) CAP ((P ++ [91]).map (Value.int .u8)) rfl (ho6.at HL6.out) a2' n2 c2' (G.map (Value.int .u8)) rfl (by rw [List.length_map, HL2.out, Nat.mul_one]) HOC.out ((HTC.out.kept g6).news) (ints_oneCell .u8 G) (by omega) ?_; intro w7 hown7 hgr7
                     have ho7 : Own w7 B B CAP ((P ++ [91]) ++ G) := Own.push (xs := P ++ [91]) (ys := G) HL6.out.symm HL2.out.symm hown7
                     have g7 : wD.grownBy w7 none := g6.andThen hgr7 (fun j hj => .inl (by simp at hj; omega))
                     clear hown7 hgr7 ho6 g6))
                go_loopw [10, 12] (fun v u wr => ∃ k m : Nat, ∃ Z : List Int, k ≤ n1 ∧ m ≤ CAP ∧ u = .int .i64 k ∧ v = .slice (some ⟨B, 0, none⟩) m CAP ∧ Hid (Z = P ++ 91 :: (G ++ Plain.bd G X k)) ∧ Hid (Z.length = m) ∧ Hid (m ≤ n0 + 1 + n2 + k * S) ∧ Own wr B B CAP Z ∧ wD.grownBy wr none) (fun _ u _ => n1 - (intOf u).toNat)
                case atStart => exact ⟨0, n0 + 1 + n2, (P ++ [91]) ++ G, by omega, by omega, rfl, rfl, by show _ = _; simp [Plain.bd], by show _ = _; rw [List.length_append, HL6.out, HL2.out], by show _ ≤ _; omega, ho7, g7⟩
                case round =>
                  clear ho7 g7 hk hlt
                  obtain ⟨k, m, Z, hk, hmc, rfl, rfl, HZ, HZL, HM, hown, hgr⟩ := hrel
                  by_cases hlt : k < n1
                  · obtain ⟨b, o, ha1, hc0⟩ := HTB.out k (by rw [HL1.out]; exact hlt)
                    have hc1 := hc0 k (by rw [HL1.out]; exact hlt)
                    clear hc0
                    subst ha1
                    obtain ⟨x, hx⟩ : ∃ x, x = X.getD k 0 := ⟨_, rfl⟩
                    rw [← hx] at hc1
                    have HC1 : Hid (wD.cell? ⟨b, o + k, none⟩ = some (.int .i64 x)) := hc1
                    have hxb := HY1.out x (by rw [hx]; exact mem_getD (by rw [HL1.out]; exact hlt))
                    have hdl := Plain.dec_len x hxb.1 hxb.2
                    have HXB : Hid (-9223372036854775808 ≤ x ∧ x ≤ 9223372036854775807) := hxb
                    have HX : Hid (x = X.getD k 0) := hx
                    have hfit : m + 4 * n2 + 44 ≤ CAP + n2 + 1 := by
                      have h1 := HM.out
                      have h2 := HN1.out
                      have h3 := HSE.out
                      have h4 : (k + 1) * S ≤ n1 * S := Nat.mul_le_mul_right S (by omega)
                      rw [Nat.succ_mul] at h4
                      omega
                    have HK1 : Hid ((k + 1) * S = k * S + S) := Nat.succ_mul k S
                    obtain ⟨dl, hdle⟩ : ∃ dl, (Plain.dec x).length = dl := ⟨_, rfl⟩
                    rw [hdle] at hdl
                    have HDL : Hid ((Plain.dec x).length = dl) := hdle
                    clear hc1 hxb hx hdle
                    by_cases hk0 : k ≤ 0
                    · have hcell := hgr.cell HC1.out (by simp)
                      have CD := appDec B B CAP m Z x wr HXB.out.1 HXB.out.2 HZL.out hown (by omega)
                      rw [HDL.out] at CD
                      go_wp2_with fail
                      refine CD.mono ?_
                      rintro e wF ⟨he, hoF, hgF⟩
                      rw [he]
                      clear CD he hcell hown
                      have gF : wD.grownBy wF none := hgr.andThen hgF (fun j hj => .inl (by simp at hj; omega))
                      have HLF : Hid ((Z ++ Plain.dec x).length = m + dl) := by show _ = _; rw [List.length_append, HZL.out, HDL.out]
                      clear hgF hgr
                      go_wp2_with (first | (at_builtin; refine wpList_append_fits_any _ rfl (.tmp 111) (.tmp 112) 22 rfl B 5 i5 1 Try.underlying22 hi5 z51 B (m + dl) CAP ((Z ++ Plain.dec x).map (Value.int .u8)) rfl (hoF.at HLF.out) a2' n2 c2' (G.map (Value.int .u8)) rfl (by rw [List.length_map, HL2.out, Nat.mul_one]) HOC.out ((HTC.out.kept gF).news) (ints_oneCell .u8 G) (by omega) ?_; intro wG hownG hgrG))
                      have hoG : Own wG B B CAP ((Z ++ Plain.dec x) ++ G) := Own.push (xs := Z ++ Plain.dec x) (ys := G) HLF.out.symm HL2.out.symm hownG
                      have gG : wD.grownBy wG none := gF.andThen hgrG (fun j hj => .inl (by simp at hj; omega))
                      clear hownG hgrG hoF gF
                      go_roundw
                      case rel => exact ⟨k + 1, m + dl + n2, (Z ++ Plain.dec x) ++ G, by omega, by omega, by go_num, rfl, by show _ = _; rw [HZ.out, Plain.bd, if_pos (by omega), HX.out]; simp, by show _ = _; rw [List.length_append, HLF.out, HL2.out], by show _ ≤ _; have h1 := HM.out; have h2 := HK1.out; have h3 := HSE.out; omega, hoG, gG⟩
                      case measure => simp [intOf]; omega
                    · go_wp2_with (first
                        | (at_builtin; refine wpList_append_fits _ rfl (.tmp 99) (.tmp 100) 22 rfl B 5 i5 1 Try.underlying22 hi5 z51 B m CAP (Z.map (Value.int .u8)) rfl ((hown.at HZL.out).alloc _) ⟨wr.heap.size, 0, none⟩ 1 1 [.int .u8 44] rfl rfl (cell_one_new _ _ _) (by intro u hu; simp at hu; subst hu; rfl) (by omega) ?_; intro w8 hown8 hgr8
                           have ho8 : Own w8 B B CAP (Z ++ [44]) := Own.push (xs := Z) (ys := [44]) HZL.out.symm rfl hown8
                           have g8 : wD.grownBy w8 none := (hgr.trans (World.grownBy_alloc _ _ _)).andThen hgr8 (fun j hj => .inl (by simp at hj; omega))
                           have HL8 : Hid ((Z ++ [44]).length = m + 1) := (by show _ = _; rw [List.length_append, HZL.out]; rfl)
                           clear hown8 hgr8 hown hgr)
                        | (at_builtin; refine wpList_append_fits_any _ rfl (.tmp 102) (.tmp 103) 22 rfl B 5 i5 1 Try.underlying22 hi5 z51 B (m + 1) CAP ((Z ++ [44]).map (Value.int .u8)) rfl (ho8.at HL8.out) a2' n2 c2' (G.map (Value.int .u8)) rfl (by rw [List.length_map, HL2.out, Nat.mul_one]) HOC.out ((HTC.out.kept g8).news) (ints_oneCell .u8 G) (by omega) ?_; intro w9 hown9 hgr9
                           have ho9 : Own w9 B B CAP ((Z ++ [44]) ++ G) := Own.push (xs := Z ++ [44]) (ys := G) HL8.out.symm HL2.out.symm hown9
                           have g9 : wD.grownBy w9 none := g8.andThen hgr9 (fun j hj => .inl (by simp at hj; omega))
                           have HL9 : Hid (((Z ++ [44]) ++ G).length = m + 1 + n2) := (by show _ = _; rw [List.length_append, HL8.out, HL2.out])
                           have hcell := g9.cell HC1.out (by simp)
                           clear hown9 hgr9 ho8 g8))
                      have CD := appDec B B CAP (m + 1 + n2) ((Z ++ [44]) ++ G) x w9 HXB.out.1 HXB.out.2 HL9.out ho9 (by omega)
                      rw [HDL.out] at CD
                      refine CD.mono ?_
                      rintro e wF ⟨he, hoF, hgF⟩
                      rw [he]
                      clear CD he hcell ho9
                      have gF : wD.grownBy wF none := g9.andThen hgF (fun j hj => .inl (by simp at hj; omega))
                      have HLF : Hid ((((Z ++ [44]) ++ G) ++ Plain.dec x).length = m + 1 + n2 + dl) := by show _ = _; rw [List.length_append, HL9.out, HDL.out]
                      clear hgF g9
                      go_wp2_with (first | (at_builtin; refine wpList_append_fits_any _ rfl (.tmp 111) (.tmp 112) 22 rfl B 5 i5 1 Try.underlying22 hi5 z51 B (m + 1 + n2 + dl) CAP ((((Z ++ [44]) ++ G) ++ Plain.dec x).map (Value.int .u8)) rfl (hoF.at HLF.out) a2' n2 c2' (G.map (Value.int .u8)) rfl (by rw [List.length_map, HL2.out, Nat.mul_one]) HOC.out ((HTC.out.kept gF).news) (ints_oneCell .u8 G) (by omega) ?_; intro wG hownG hgrG))
                      have hoG : Own wG B B CAP ((((Z ++ [44]) ++ G) ++ Plain.dec x) ++ G) := Own.push (xs := ((Z ++ [44]) ++ G) ++ Plain.dec x) (ys := G) HLF.out.symm HL2.out.symm hownG
                      have gG : wD.grownBy wG none := gF.andThen hgrG (fun j hj => .inl (by simp at hj; omega))
                      clear hownG hgrG hoF gF
                      go_roundw
                      case rel => exact ⟨k + 1, m + 1 + n2 + dl + n2, (((Z ++ [44]) ++ G) ++ Plain.dec x) ++ G, by omega, by omega, by go_num, rfl, by show _ = _; rw [HZ.out, Plain.bd, if_neg (by omega), HX.out]; simp, by show _ = _; rw [List.length_append, HLF.out, HL2.out], by show _ ≤ _; have h1 := HM.out; have h2 := HK1.out; have h3 := HSE.out; omega, hoG, gG⟩
                      case measure => simp [intOf]; omega
                  · have hkn : k = n1 := by omega
                    have hmf : m + n3 + 2 ≤ CAP + 1 := by
                      have h1 := HM.out
                      have h2 := HN1.out
                      rw [hkn] at h1
                      omega
                    rw [hkn, ← HL1.out] at HZ
                    clear hkn HM
                    obtain ⟨zs, hzs⟩ : ∃ zs, zs = (Z ++ [93]) ++ T := ⟨_, rfl⟩
                    have HLZ : Hid ((Z ++ [93]).length = m + 1) := by show _ = _; rw [List.length_append, HZL.out]; rfl
                    have HLS : Hid (zs.length = m + 1 + n3) := by show _ = _; rw [hzs, List.length_append, HLZ.out, HL3.out]
                    have HSS : Hid (zs = P ++ (91 :: (G ++ Plain.fst G T X))) := by
                      show _ = _
                      rw [hzs, HZ.out, ← Plain.bd_all G T X]
                      simp
                    have HDR : Hid (zs.drop n0 = 91 :: (G ++ Plain.fst G T X)) := by
                      show _ = _
                      rw [HSS.out, ← HL0.out, List.drop_left]
                    have HBY : Hid (Plain.Byt zs) := by
                      show Plain.Byt zs
                      rw [HSS.out]
                      exact HY0.out.append (Plain.Byt.cons (by omega) (HY2.out.append (Plain.byt_fst HY2.out HY3.out X)))
                    have hn0N : n0 ≤ m + 1 + n3 := by have h1 := HLS.out; have h2 := congrArg List.length HSS.out; rw [List.length_append, HL0.out, h1] at h2; omega
                    have HZS : Hid (zs = (Z ++ [93]) ++ T) := hzs
                    clear hzs HZ
                    go_wp2_with (first
                      | (at_builtin; refine wpList_append_fits _ rfl (.tmp 114) (.tmp 115) 22 rfl B 5 i5 1 Try.underlying22 hi5 z51 B m CAP (Z.map (Value.int .u8)) rfl ((hown.at HZL.out).alloc _) ⟨wr.heap.size, 0, none⟩ 1 1 [.int .u8 93] rfl rfl (cell_one_new _ _ _) (by intro u hu; simp at hu; subst hu; rfl) (by omega) ?_; intro w8 hown8 hgr8
                         have ho8 : Own w8 B B CAP (Z ++ [93]) := Own.push (xs := Z) (ys := [93]) HZL.out.symm rfl hown8
                         have g8 : wD.grownBy w8 none := (hgr.trans (World.grownBy_alloc _ _ _)).andThen hgr8 (fun j hj => .inl (by simp at hj; omega))
                         clear hown8 hgr8 hown hgr)
                      | (at_builtin; refine wpList_append_fits_any _ rfl (.tmp 119) (.tmp 120) 22 rfl B 5 i5 1 Try.underlying22 hi5 z51 B (m + 1) CAP ((Z ++ [93]).map (Value.int .u8)) rfl (ho8.at HLZ.out) a3' n3 c3' (T.map (Value.int .u8)) rfl (by rw [List.length_map, HL3.out, Nat.mul_one]) HOD.out ((HTD.out.kept g8).news) (ints_oneCell .u8 T) (by omega) ?_; intro w9 hown9 hgr9
                         have ho9 : Own w9 B B CAP ((Z ++ [93]) ++ T) := Own.push (xs := Z ++ [93]) (ys := T) HLZ.out.symm HL3.out.symm hown9
                         have g9 : wD.grownBy w9 none := g8.andThen hgr9 (fun j hj => .inl (by simp at hj; omega))
                         clear hown9 hgr9 ho8 g8))
                    rw [← HZS.out] at ho9
                    have CL := zzList B 0 (m + 1 + n3) CAP n0 zs G T X HY1.out w9 HLS.out (by omega) (Own.txt ho9 HBY.out) hn0N (by omega) HDR.out HSP.out
                    rw [HL1.out, HL3.out, Nat.add_sub_cancel] at CL
                    refine CL.mono ?_
                    rintro e wO ⟨GL, CC, he, tL, gL⟩
                    rw [he]
                    clear CL he
                    have hnil : ∀ w, (binOp .eql 32 (.slice (some ⟨GL, 0, none⟩) n1 CC) (.slice none 0 0)).run Try.prog w = .ok (.bool false) w := fun w => Lib.run_eql_slice_nil (P := Try.prog) w 32 2 (some ⟨GL, 0, none⟩) n1 CC 0 0 Try.underlying32
                    have gO : wD.grownBy wO none := g9.trans gL
                    have HTL : Hid (Tl .i64 wO (some ⟨GL, 0, none⟩) X) := tL
                    clear tL gL g9 ho9
                    go_wp2_with fail
                    go_loopw [17] (fun u wr => ∃ k : Nat, k ≤ n1 ∧ u = .int .i64 k ∧ wO.grownBy wr none) (fun u _ => n1 - (intOf u).toNat)
                    case atStart => exact ⟨0, by omega, rfl, World.grownBy.refl _ _⟩
                    case round =>
                      clear hk hlt
                      obtain ⟨k, hk, rfl, hgr⟩ := hrel
                      by_cases hlt : k < n1
                      · obtain ⟨b1, o1, ha1, hc1⟩ := HTB.out k (by rw [HL1.out]; exact hlt)
                        have hcell1 := (gO.trans hgr).cell (hc1 k (by rw [HL1.out]; exact hlt)) (by simp)
                        obtain ⟨b2, o2, ha2, hc2⟩ := HTL.out k (by rw [HL1.out]; exact hlt)
                        have hcell2 := hgr.cell (hc2 k (by rw [HL1.out]; exact hlt)) (by simp)
                        injection ha2 with ha3
                        injection ha3 with hb2 ho2
                        rw [← hb2, ← ho2, Nat.zero_add] at hcell2
                        clear hc1 hc2 hb2 ho2
                        subst ha1
                        obtain ⟨x, hx⟩ : ∃ x, x = X.getD k 0 := ⟨_, rfl⟩
                        rw [← hx] at hcell1 hcell2
                        clear hx
                        have hki : (k : Int) < (n1 : Int) := by omega
                        have hkp : (0 : Int) ≤ (k : Int) := by omega
                        go_wp2_with fail
                        go_quiet (fail)
                        go_wp2_with fail
                        go_roundw
                        case rel => exact ⟨k + 1, by omega, by go_num, hgr.trans ⟨rfl, rfl, rfl, Nat.le_refl _, fun _ _ _ => rfl⟩⟩
                        case measure => simp [intOf]; omega
                      · go_wp2_with fail
                        go_ret
                        exact ⟨rfl, (Below.refl _ w1).grown (gAD.trans (gO.trans hgr)) (Nat.le_refl _) (by simp)⟩
          · skip
            have hdl : decide ((67108864 : Int) < (PR : Int)) = true := by simp; omega
            clear g4
            go_enter Try.func6, Try.ntmps6
            go_wp2_with fail
            refine CZ.mono ?_
            rintro e w1 ⟨⟨r, he⟩, hw1⟩
            subst hw1
            clear CZ
            rw [he]
            clear he
            cases r
            · go_wp2_with fail
              go_ret
              exact ⟨rfl, Below.refl _ _⟩
            · go_wp2_with fail
              go_ret
              exact ⟨rfl, Below.refl _ _⟩
        · skip
          go_enter Try.func6, Try.ntmps6
          go_wp2_with fail
          refine CZ.mono ?_
          rintro e w1 ⟨⟨r, he⟩, hw1⟩
          subst hw1
          clear CZ
          rw [he]
          clear he
          cases r
          · go_wp2_with fail
            go_ret
            exact ⟨rfl, Below.refl _ _⟩
          · go_wp2_with fail
            go_ret
            exact ⟨rfl, Below.refl _ _⟩
      · skip
        go_enter Try.func6, Try.ntmps6
        go_wp2_with fail
        refine CZ.mono ?_
        rintro e w1 ⟨⟨r, he⟩, hw1⟩
        subst hw1
        clear CZ
        rw [he]
        clear he
        cases r
        · go_wp2_with fail
          go_ret
          exact ⟨rfl, Below.refl _ _⟩
        · go_wp2_with fail
          go_ret
          exact ⟨rfl, Below.refl _ _⟩
    · skip
      go_enter Try.func6, Try.ntmps6
      go_wp2_with fail
      refine CZ.mono ?_
      rintro e w1 ⟨⟨r, he⟩, hw1⟩
      subst hw1
      clear CZ
      rw [he]
      clear he
      cases r
      · go_wp2_with fail
        go_ret
        exact ⟨rfl, Below.refl _ _⟩
      · go_wp2_with fail
        go_ret
        exact ⟨rfl, Below.refl _ _⟩
  · skip
    go_enter Try.func6, Try.ntmps6
    go_wp2_with fail
    refine CZ.mono ?_
    rintro e w1 ⟨⟨r, he⟩, hw1⟩
    subst hw1
    clear CZ
    rw [he]
    clear he
    cases r
    · go_wp2_with fail
      go_ret
      exact ⟨rfl, Below.refl _ _⟩
    · go_wp2_with fail
      go_ret
      exact ⟨rfl, Below.refl _ _⟩

end Go.Proofs.Qxb6001245a
