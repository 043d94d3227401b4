/-
  THE WALK of zzB1BuildExt.
-/
import Derived.Test.Qxb6001092aSt
import Derived.Deep.DeepCutAuto
namespace Go.Proofs.Qxb6001092a
open Go.RowKit

theorem encF_le : ∀ (f m : Nat), (Plain.encF f m).length ≤ f
  | 0, m => by simp [Plain.encF]
  | f + 1, m => by
    by_cases hm : m = 0
    · rw [hm, Plain.encF_zero]; simp
    · rw [Plain.encF_succ f m hm, List.length_append]
      have := encF_le f ((m - 1) / 128)
      simp; omega
theorem enc_le (n : Nat) : (Plain.enc n).length ≤ 11 := by
  unfold Plain.enc
  rw [List.length_append]
  have := encF_le 10 (n / 128)
  simp; omega

theorem grown_of_below {w1 w2 : World} (hb : Below w1.heap.size w1 w2) : w1.grownBy w2 none := ⟨hb.os, hb.tape, hb.output, hb.size, fun k hk _ => hb.block k hk⟩
theorem Own.later {w1 w2 : World} {base g : Nat} {xs : List Int} (h : Own w1 base g xs) (hb : Below w1.heap.size w1 w2) : Own w2 base g xs := World.ownsRow.kept h (grown_of_below hb) (.inr (by simp [Value.ownBlock]))
theorem Own.base {w1 : World} {base base' g : Nat} {xs : List Int} (h : Own w1 base g xs) (hb : base' ≤ base) : Own w1 base' g xs := by
  refine ⟨h.1, ?_⟩
  rcases h.2 with ⟨e, _⟩ | ⟨g', cap, cur, e1, e2, e3⟩
  · simp at e
  · exact .inr ⟨g', cap, cur, e1, by omega, e3⟩

/-- What the call leaves. -/
def Built (e : Ending) (w w' : World) (B : Nat) (ident name : List Int) (h d : Nat) (tail : List Int) : Prop :=
  ∃ (g : Nat) (F : List Int), F.length = 76 + 2 * h ∧ e = .returned (.slice (some ⟨g, 0, none⟩) (Plain.ext ident F name d tail).length (Plain.ext ident F name d tail).length) ∧
    Own w' B g (Plain.ext ident F name d tail) ∧ Byt (Plain.ext ident F name d tail) ∧ Below B w w'

set_option maxRecDepth 100000 in
set_option maxHeartbeats 4000000 in
theorem build_any (a0 : Option Addr) (n0 c0 : Nat) (ident : List Int) (a1 : Option Addr) (n1 c1 : Nat) (fill : List Int) (a2 : Option Addr) (n2 c2 : Nat) (name : List Int) (h d : Nat) (a5 : Option Addr) (n5 c5 : Nat) (tail : List Int) (w : World)
    (l0 : ident.length = n0) (l1 : fill.length = n1) (l2 : name.length = n2) (l5 : tail.length = n5) (b0 : n0 ≤ 262144) (b1 : n1 ≤ 262144) (b2 : n2 ≤ 262144) (b5 : n5 ≤ 262144) (hh : h ≤ 65536) (hd : d < 18446744073709551616)
    (t0 : Tl w a0 ident) (t1 : Tl w a1 fill) (t2 : Tl w a2 name) (t5 : Tl w a5 tail) (y0 : Byt ident) (y1 : Byt fill) (y2 : Byt name) (y5 : Byt tail) :
    Calls Try.prog 22 #[.slice a0 n0 c0, .slice a1 n1 c1, .slice a2 n2 c2, .int .i64 h, .int .u64 d, .slice a5 n5 c5] w fun e w' => Built e w w' w.heap.size ident name h d tail := by
  obtain ⟨i5, hi5, z50, z51, z52⟩ := info_parts info5
  obtain ⟨B, hB⟩ : ∃ B, w.heap.size = B := ⟨_, rfl⟩
  have HE1 := fun wx => enc_any n0 wx (by omega)
  have HE2 := fun wx => enc_any d wx hd
  have hA11 := enc_le n0
  have hD11 := enc_le d
  obtain ⟨A, hA⟩ : ∃ A, A = Plain.enc n0 := ⟨_, rfl⟩
  obtain ⟨Dn, hDn⟩ : ∃ Dn, Dn = Plain.enc d := ⟨_, rfl⟩
  have yA : Byt A := by rw [hA]; exact byt_enc _
  have yD : Byt Dn := by rw [hDn]; exact byt_enc _
  rw [← hA] at HE1 hA11
  rw [← hDn] at HE2 hD11
  obtain ⟨la, hla⟩ : ∃ la, A.length = la := ⟨_, rfl⟩
  obtain ⟨ld, hld⟩ : ∃ ld, Dn.length = ld := ⟨_, rfl⟩
  rw [hla] at HE1 hA11
  rw [hld] at HE2 hD11
  have HA : Hid (A = Plain.enc n0) := hA
  have HDn : Hid (Dn = Plain.enc d) := hDn
  have LA : Hid (A.length = la) := hla
  have LD : Hid (Dn.length = ld) := hld
  have L0 : Hid (ident.length = n0) := l0
  have L1 : Hid (fill.length = n1) := l1
  have L2 : Hid (name.length = n2) := l2
  have L5 : Hid (tail.length = n5) := l5
  have Y0 : Hid (Byt ident) := y0
  have Y1 : Hid (Byt fill) := y1
  have Y2 : Hid (Byt name) := y2
  have Y5 : Hid (Byt tail) := y5
  have YA : Hid (Byt A) := yA
  have YD : Hid (Byt Dn) := yD
  have T0 : Hid (Tl w a0 ident) := t0
  have T1 : Hid (Tl w a1 fill) := t1
  have T2 : Hid (Tl w a2 name) := t2
  have T5 : Hid (Tl w a5 tail) := t5
  clear hA hDn hla hld l0 l1 l2 l5 y0 y1 y2 y5 yA yD t0 t1 t2 t5
  obtain ⟨T, hT⟩ : ∃ T : Nat, T = la + n0 + (76 + 2 * h) + n2 + 1 + ld + n5 := ⟨_, rfl⟩
  have hT1 : T ≤ la + n0 + (76 + 2 * h) + n2 + 1 + ld + n5 := by omega
  have hT2 : la + n0 + (76 + 2 * h) + n2 + 1 + ld + n5 ≤ T := by omega
  clear hT
  rw [hB]
  go_enter Try.func22, Try.ntmps22
  go_wp2_with fail
  refine (HE1 _).mono ?_
  rintro e w1 ⟨g1, rfl, hown1, hbel1⟩
  go_wp2_with fail
  refine (HE2 _).mono ?_
  rintro e w2 ⟨g2, rfl, hown2, hbel2⟩
  clear HE1 HE2
  have g1lt := hown1.lt
  have g2lt := hown2.lt
  have s1 := hbel1.size
  have s2 := hbel2.size
  have hownA := hown1.later hbel2
  have hbw : Below B w w2 := by rw [← hB]; exact hbel1.trans (hbel2.mono hbel1.size)
  have TA : Hid (Tl w2 (some ⟨g1, 0, none⟩) A) := hownA.tl (by omega)
  have TD : Hid (Tl w2 (some ⟨g2, 0, none⟩) Dn) := hown2.tl (by omega)
  have TT0 : Hid (Tl w2 a0 ident) := T0.out.later hB hbw
  have TT1 : Hid (Tl w2 a1 fill) := T1.out.later hB hbw
  have TT2 : Hid (Tl w2 a2 name) := T2.out.later hB hbw
  have TT5 : Hid (Tl w2 a5 tail) := T5.out.later hB hbw
  obtain ⟨G, hG⟩ : ∃ G, w2.heap.size = G := ⟨_, rfl⟩
  have hBG : B ≤ G := by omega
  clear hown1 hown2 hownA hbel1 hbel2 T0 T1 T2 T5 g1lt g2lt s1 s2
  go_wp2_with (at_make; refine wpList_make_full _ rfl (.tmp 51) (.tmp 51) 23 rfl B 5 i5 (.int .u8 0) 1 Try.underlying23 hi5 z50 z51 .i64 .i64 _ _ T rfl rfl (by omega) (by omega) (by rw [z52]; omega) (by unfold maxLen; omega) (by omega) ?_; intro w3 hown3 hgr3)
  rw [hG] at hown3
  rw [Nat.mul_one, show (Value.int IntKind.u8 0).cells = #[.int .u8 0] from rfl, toList_madeCells_one] at hown3
  have hst0 : St w2 w3 B G T [] := St.start hown3 ((Below.refl G w2).grown hgr3 (by omega) (by simp))
  have HG : Hid (w2.heap.size = G) := hG
  have HB : Hid (w.heap.size = B) := hB
  have HBW : Hid (Below B w w2) := hbw
  clear hown3 hgr3 hG hB hbw
  obtain ⟨E0, hE0⟩ : ∃ E0 : List Int, E0 = [] := ⟨_, rfl⟩
  rw [← hE0] at hst0
  have HE0 : Hid (E0 = []) := hE0
  have HLE0 : Hid (E0.length = 0) := by show _ = _; rw [hE0]; rfl
  clear hE0
  have HL1 : Hid (E0.length + la ≤ T) := by show _ ≤ _; rw [HLE0.out]; omega
  go_loopw [18, 19] (fun t u wx => ∃ k q : Nat, ∃ D : List Int, k ≤ la ∧ q ≤ T ∧ t = .int .i64 q ∧ u = .int .i64 k ∧ Hid (D = E0 ++ A.take k) ∧ Hid (D.length = q) ∧ St w2 wx B G T D) (fun _ u _ => la - (intOf u).toNat)
  case atStart => exact ⟨0, 0, E0, by omega, by omega, by go_num, rfl, by show _ = _; rw [List.take_zero, List.append_nil], HLE0.out, hst0⟩
  case round =>
    clear hst0
    obtain ⟨k, q, D, hk, hqle, rfl, rfl, HD, HQ, hst⟩ := hrel
    by_cases hlt : k < la
    · obtain ⟨bs, os, ea, hbs, hc⟩ := TA.out k (by rw [LA.out]; exact hlt)
      have hcell := (hst.below.cell (p := ⟨bs, os + k, none⟩) (by show bs < G; have := HG.out; omega)).trans (hc k (by rw [LA.out]; exact hlt))
      have hbx := byt_getD YA.out k
      have hts := take_snoc A k (by rw [LA.out]; exact hlt)
      obtain ⟨x, hx⟩ : ∃ x, x = A.getD k 0 := ⟨_, rfl⟩
      rw [← hx] at hcell hbx hts
      have hqT : q < T := by
        have e1 := HQ.out
        rw [HD.out, List.length_append, List.length_take, LA.out] at e1
        have e2 := HL1.out
        omega
      obtain ⟨v, hold, hfz⟩ := hst.cells HQ.out hqT
      have hst' := hst.put HG.out HQ.out hqT x hbx
      have HD' : Hid (D ++ [x] = E0 ++ A.take (k + 1)) := by show _ = _; rw [HD.out, hts, List.append_assoc]
      have HQ' : Hid ((D ++ [x]).length = q + 1) := by show _ = _; rw [List.length_append, HQ.out]; rfl
      clear hst hx hts hc hbs HD HQ hbx
      simp only [Option.some.injEq, Addr.mk.injEq, and_true] at ea
      obtain ⟨rfl, rfl⟩ := ea
      rw [Nat.zero_add] at hcell
      go_wp2_with fail
      go_roundw
      case rel => exact ⟨k + 1, q + 1, D ++ [x], by omega, by omega, by go_num, by go_num, HD'.out, HQ'.out, hst'⟩
      case measure => simp [intOf]; omega
    · have ek : k = la := by omega
      have hDE : D = E0 ++ A := by rw [HD.out, ek, List.take_of_length_le (by rw [LA.out]; omega)]
      obtain ⟨E1, hE1⟩ : ∃ E1, E1 = E0 ++ A := ⟨_, rfl⟩
      rw [← hE1] at hDE
      rw [hDE] at HQ hst
      have HE1 : Hid (E1 = E0 ++ A) := hE1
      have HLE1 : Hid (E1.length = la) := by show _ = _; rw [hE1, List.length_append, HLE0.out, LA.out]; omega
      have hq1a : q ≤ la := by have e1 := HQ.out; rw [HLE1.out] at e1; omega
      have hq1b : la ≤ q := by have e1 := HQ.out; rw [HLE1.out] at e1; omega
      have hst1 := hst
      have HHQ1 : Hid (E1.length = q) := HQ
      clear hst HQ HD ek hDE hE1 hk
      go_wp2_with fail
      have HL2 : Hid (E1.length + n0 ≤ T) := by show _ ≤ _; rw [HLE1.out]; omega
      go_loopw [18, 20] (fun t u wx => ∃ k q : Nat, ∃ D : List Int, k ≤ n0 ∧ q ≤ T ∧ t = .int .i64 q ∧ u = .int .i64 k ∧ Hid (D = E1 ++ ident.take k) ∧ Hid (D.length = q) ∧ St w2 wx B G T D) (fun _ u _ => n0 - (intOf u).toNat)
      case atStart => exact ⟨0, q, E1, by omega, by omega, by go_num, rfl, by show _ = _; rw [List.take_zero, List.append_nil], HHQ1.out, hst1⟩
      case round =>
        clear hst1
        obtain ⟨k, q, D, hk, hqle, rfl, rfl, HD, HQ, hst⟩ := hrel
        by_cases hlt : k < n0
        · obtain ⟨bs, os, ea, hbs, hc⟩ := TT0.out k (by rw [L0.out]; exact hlt)
          have hcell := (hst.below.cell (p := ⟨bs, os + k, none⟩) (by show bs < G; have := HG.out; omega)).trans (hc k (by rw [L0.out]; exact hlt))
          have hbx := byt_getD Y0.out k
          have hts := take_snoc ident k (by rw [L0.out]; exact hlt)
          obtain ⟨x, hx⟩ : ∃ x, x = ident.getD k 0 := ⟨_, rfl⟩
          rw [← hx] at hcell hbx hts
          have hqT : q < T := by
            have e1 := HQ.out
            rw [HD.out, List.length_append, List.length_take, L0.out] at e1
            have e2 := HL2.out
            omega
          obtain ⟨v, hold, hfz⟩ := hst.cells HQ.out hqT
          have hst' := hst.put HG.out HQ.out hqT x hbx
          have HD' : Hid (D ++ [x] = E1 ++ ident.take (k + 1)) := by show _ = _; rw [HD.out, hts, List.append_assoc]
          have HQ' : Hid ((D ++ [x]).length = q + 1) := by show _ = _; rw [List.length_append, HQ.out]; rfl
          clear hst hx hts hc hbs HD HQ hbx
          subst ea
          go_wp2_with fail
          go_roundw
          case rel => exact ⟨k + 1, q + 1, D ++ [x], by omega, by omega, by go_num, by go_num, HD'.out, HQ'.out, hst'⟩
          case measure => simp [intOf]; omega
        · have ek : k = n0 := by omega
          have hDE : D = E1 ++ ident := by rw [HD.out, ek, List.take_of_length_le (by rw [L0.out]; omega)]
          obtain ⟨E2, hE2⟩ : ∃ E2, E2 = E1 ++ ident := ⟨_, rfl⟩
          rw [← hE2] at hDE
          rw [hDE] at HQ hst
          have HE2 : Hid (E2 = E1 ++ ident) := hE2
          have HLE2 : Hid (E2.length = la + n0) := by show _ = _; rw [hE2, List.length_append, HLE1.out, L0.out]
          have hq2a : q ≤ la + n0 := by have e1 := HQ.out; rw [HLE2.out] at e1; omega
          have hq2b : la + n0 ≤ q := by have e1 := HQ.out; rw [HLE2.out] at e1; omega
          have hst2 := hst
          have HHQ2 : Hid (E2.length = q) := HQ
          clear hst HQ HD ek hDE hE2 hk
          go_wp2_with fail
          have HL3 : Hid (E2.length + (76 + 2 * h) ≤ T) := by show _ ≤ _; rw [HLE2.out]; omega
          go_loopw [18, 21] (fun t u wx => ∃ k q : Nat, ∃ F : List Int, k ≤ 76 + 2 * h ∧ q ≤ T ∧ t = .int .i64 q ∧ u = .int .i64 k ∧ Hid (F.length = k) ∧ Hid ((E2 ++ F).length = q) ∧ St w2 wx B G T (E2 ++ F)) (fun _ u _ => 76 + 2 * h - (intOf u).toNat)
          case atStart => exact ⟨0, q, [], by omega, by omega, by go_num, rfl, rfl, by show _ = _; rw [List.append_nil]; exact HHQ2.out, by rw [List.append_nil]; exact hst2⟩
          case round =>
            clear hst2
            obtain ⟨k, q, F, hk, hqle, rfl, rfl, HF, HQ, hst⟩ := hrel
            by_cases hlt : k < 76 + 2 * h
            · have hqT : q < T := by
                have e1 := HQ.out
                rw [List.length_append, HF.out] at e1
                have e2 := HL3.out
                omega
              by_cases hn1 : n1 = 0
              · obtain ⟨x, hbx, hst'⟩ := hst.skip HQ.out hqT
                have HF' : Hid ((F ++ [x]).length = k + 1) := by show _ = _; rw [List.length_append, HF.out]; rfl
                have HQ' : Hid ((E2 ++ (F ++ [x])).length = q + 1) := by show _ = _; rw [← List.append_assoc, List.length_append, HQ.out]; rfl
                rw [List.append_assoc] at hst'
                have hn1' : ¬ ((0 : Int) < (n1 : Int)) := by omega
                clear hst HF HQ hbx hn1
                go_wp2_with fail
                go_roundw
                case rel => exact ⟨k + 1, q + 1, F ++ [x], by omega, by omega, by go_num, by go_num, HF'.out, HQ'.out, hst'⟩
                case measure => simp [intOf]; omega
              · have hnp : 0 < n1 := by omega
                have hlj : k % n1 < n1 := Nat.mod_lt _ hnp
                obtain ⟨bs, os, ea, hbs, hc⟩ := TT1.out (k % n1) (by rw [L1.out]; exact hlj)
                have hcell := (hst.below.cell (p := ⟨bs, os + k % n1, none⟩) (by show bs < G; have := HG.out; omega)).trans (hc (k % n1) (by rw [L1.out]; exact hlj))
                have hbx := byt_getD Y1.out (k % n1)
                obtain ⟨x, hx⟩ : ∃ x, x = fill.getD (k % n1) 0 := ⟨_, rfl⟩
                rw [← hx] at hcell hbx
                obtain ⟨v, hold, hfz⟩ := hst.cells HQ.out hqT
                have hst' := hst.put HG.out HQ.out hqT x hbx
                have HF' : Hid ((F ++ [x]).length = k + 1) := by show _ = _; rw [List.length_append, HF.out]; rfl
                have HQ' : Hid ((E2 ++ (F ++ [x])).length = q + 1) := by show _ = _; rw [← List.append_assoc, List.length_append, HQ.out]; rfl
                rw [List.append_assoc] at hst'
                have hnI : (0 : Int) < (n1 : Int) := by omega
                have hne : ((n1 : Int) == 0) = false := by simp; omega
                clear hst HF HQ hbx hn1 hc hbs hx
                subst ea
                go_wp2_with fail
                go_roundw
                case rel => exact ⟨k + 1, q + 1, F ++ [x], by omega, by omega, by go_num, by go_num, HF'.out, HQ'.out, hst'⟩
                case measure => simp [intOf]; omega
            · have ek : k = 76 + 2 * h := by omega
              have HFL : Hid (F.length = 76 + 2 * h) := by show _ = _; rw [HF.out, ek]
              obtain ⟨E3, hE3⟩ : ∃ E3, E3 = E2 ++ F := ⟨_, rfl⟩
              rw [← hE3] at HQ hst
              have HE3 : Hid (E3 = E2 ++ F) := hE3
              have HLE3 : Hid (E3.length = la + n0 + (76 + 2 * h)) := by show _ = _; rw [hE3, List.length_append, HLE2.out, HFL.out]
              have hq3a : q ≤ la + n0 + (76 + 2 * h) := by have e1 := HQ.out; rw [HLE3.out] at e1; omega
              have hq3b : la + n0 + (76 + 2 * h) ≤ q := by have e1 := HQ.out; rw [HLE3.out] at e1; omega
              have hst3 := hst
              have HHQ3 : Hid (E3.length = q) := HQ
              clear hst HQ HF ek hE3 hk
              go_wp2_with fail
              have HL4 : Hid (E3.length + n2 ≤ T) := by show _ ≤ _; rw [HLE3.out]; omega
              go_loopw [18, 22] (fun t u wx => ∃ k q : Nat, ∃ D : List Int, k ≤ n2 ∧ q ≤ T ∧ t = .int .i64 q ∧ u = .int .i64 k ∧ Hid (D = E3 ++ name.take k) ∧ Hid (D.length = q) ∧ St w2 wx B G T D) (fun _ u _ => n2 - (intOf u).toNat)
              case atStart => exact ⟨0, q, E3, by omega, by omega, by go_num, rfl, by show _ = _; rw [List.take_zero, List.append_nil], HHQ3.out, hst3⟩
              case round =>
                clear hst3
                obtain ⟨k, q, D, hk, hqle, rfl, rfl, HD, HQ, hst⟩ := hrel
                by_cases hlt : k < n2
                · obtain ⟨bs, os, ea, hbs, hc⟩ := TT2.out k (by rw [L2.out]; exact hlt)
                  have hcell := (hst.below.cell (p := ⟨bs, os + k, none⟩) (by show bs < G; have := HG.out; omega)).trans (hc k (by rw [L2.out]; exact hlt))
                  have hbx := byt_getD Y2.out k
                  have hts := take_snoc name k (by rw [L2.out]; exact hlt)
                  obtain ⟨x, hx⟩ : ∃ x, x = name.getD k 0 := ⟨_, rfl⟩
                  rw [← hx] at hcell hbx hts
                  have hqT : q < T := by
                    have e1 := HQ.out
                    rw [HD.out, List.length_append, List.length_take, L2.out] at e1
                    have e2 := HL4.out
                    omega
                  obtain ⟨v, hold, hfz⟩ := hst.cells HQ.out hqT
                  have hst' := hst.put HG.out HQ.out hqT x hbx
                  have HD' : Hid (D ++ [x] = E3 ++ name.take (k + 1)) := by show _ = _; rw [HD.out, hts, List.append_assoc]
                  have HQ' : Hid ((D ++ [x]).length = q + 1) := by show _ = _; rw [List.length_append, HQ.out]; rfl
                  clear hst hx hts hc hbs HD HQ hbx
                  subst ea
                  go_wp2_with fail
                  go_roundw
                  case rel => exact ⟨k + 1, q + 1, D ++ [x], by omega, by omega, by go_num, by go_num, HD'.out, HQ'.out, hst'⟩
                  case measure => simp [intOf]; omega
                · have ek : k = n2 := by omega
                  have hDE : D = E3 ++ name := by rw [HD.out, ek, List.take_of_length_le (by rw [L2.out]; omega)]
                  obtain ⟨E4, hE4⟩ : ∃ E4, E4 = E3 ++ name := ⟨_, rfl⟩
                  rw [← hE4] at hDE
                  rw [hDE] at HQ hst
                  have HE4 : Hid (E4 = E3 ++ name) := hE4
                  have HLE4 : Hid (E4.length = la + n0 + (76 + 2 * h) + n2) := by show _ = _; rw [hE4, List.length_append, HLE3.out, L2.out]
                  have hq4a : q ≤ la + n0 + (76 + 2 * h) + n2 := by have e1 := HQ.out; rw [HLE4.out] at e1; omega
                  have hq4b : la + n0 + (76 + 2 * h) + n2 ≤ q := by have e1 := HQ.out; rw [HLE4.out] at e1; omega
                  have hst4 := hst
                  have HHQ4 : Hid (E4.length = q) := HQ
                  clear hst HQ HD ek hDE hE4 hk
                  have hqT : q < T := by omega
                  obtain ⟨v, hold, hfz⟩ := hst4.cells HHQ4.out hqT
                  have hst4' := hst4.put HG.out HHQ4.out hqT 0 (by omega)
                  obtain ⟨E5, hE5⟩ : ∃ E5, E5 = E4 ++ [0] := ⟨_, rfl⟩
                  rw [← hE5] at hst4'
                  have HE5 : Hid (E5 = E4 ++ [0]) := hE5
                  have HLEz : Hid (E5.length = q + 1) := by show _ = _; rw [hE5, List.length_append, HHQ4.out]; rfl
                  clear hst4 hE5
                  go_wp2_with fail
                  have HL5 : Hid (E5.length + ld ≤ T) := by show _ ≤ _; rw [HLEz.out]; omega
                  go_loopw [18, 23] (fun t u wx => ∃ k q : Nat, ∃ D : List Int, k ≤ ld ∧ q ≤ T ∧ t = .int .i64 q ∧ u = .int .i64 k ∧ Hid (D = E5 ++ Dn.take k) ∧ Hid (D.length = q) ∧ St w2 wx B G T D) (fun _ u _ => ld - (intOf u).toNat)
                  case atStart => exact ⟨0, q + 1, E5, by omega, by omega, by go_num, rfl, by show _ = _; rw [List.take_zero, List.append_nil], HLEz.out, hst4'⟩
                  case round =>
                    clear hst4'
                    obtain ⟨k, q, D, hk, hqle, rfl, rfl, HD, HQ, hst⟩ := hrel
                    by_cases hlt : k < ld
                    · obtain ⟨bs, os, ea, hbs, hc⟩ := TD.out k (by rw [LD.out]; exact hlt)
                      have hcell := (hst.below.cell (p := ⟨bs, os + k, none⟩) (by show bs < G; have := HG.out; omega)).trans (hc k (by rw [LD.out]; exact hlt))
                      have hbx := byt_getD YD.out k
                      have hts := take_snoc Dn k (by rw [LD.out]; exact hlt)
                      obtain ⟨x, hx⟩ : ∃ x, x = Dn.getD k 0 := ⟨_, rfl⟩
                      rw [← hx] at hcell hbx hts
                      have hqT : q < T := by
                        have e1 := HQ.out
                        rw [HD.out, List.length_append, List.length_take, LD.out] at e1
                        have e2 := HL5.out
                        omega
                      obtain ⟨v, hold, hfz⟩ := hst.cells HQ.out hqT
                      have hst' := hst.put HG.out HQ.out hqT x hbx
                      have HD' : Hid (D ++ [x] = E5 ++ Dn.take (k + 1)) := by show _ = _; rw [HD.out, hts, List.append_assoc]
                      have HQ' : Hid ((D ++ [x]).length = q + 1) := by show _ = _; rw [List.length_append, HQ.out]; rfl
                      clear hst hx hts hc hbs HD HQ hbx
                      simp only [Option.some.injEq, Addr.mk.injEq, and_true] at ea
                      obtain ⟨rfl, rfl⟩ := ea
                      rw [Nat.zero_add] at hcell
                      go_wp2_with fail
                      go_roundw
                      case rel => exact ⟨k + 1, q + 1, D ++ [x], by omega, by omega, by go_num, by go_num, HD'.out, HQ'.out, hst'⟩
                      case measure => simp [intOf]; omega
                    · have ek : k = ld := by omega
                      have hDE : D = E5 ++ Dn := by rw [HD.out, ek, List.take_of_length_le (by rw [LD.out]; omega)]
                      obtain ⟨E5b, hE5b⟩ : ∃ E5b, E5b = E5 ++ Dn := ⟨_, rfl⟩
                      rw [← hE5b] at hDE
                      rw [hDE] at HQ hst
                      have HE5b : Hid (E5b = E5 ++ Dn) := hE5b
                      have HLE5 : Hid (E5b.length = la + n0 + (76 + 2 * h) + n2 + 1 + ld) := by show _ = _; rw [hE5b, List.length_append, HLEz.out, LD.out]; omega
                      have hq5a : q ≤ la + n0 + (76 + 2 * h) + n2 + 1 + ld := by have e1 := HQ.out; rw [HLE5.out] at e1; omega
                      have hq5b : la + n0 + (76 + 2 * h) + n2 + 1 + ld ≤ q := by have e1 := HQ.out; rw [HLE5.out] at e1; omega
                      have hst5 := hst
                      have HHQ5 : Hid (E5b.length = q) := HQ
                      clear hst HQ HD ek hDE hE5b hk
                      go_wp2_with fail
                      have HL6 : Hid (E5b.length + n5 ≤ T) := by show _ ≤ _; rw [HLE5.out]; omega
                      go_loopw [18, 24] (fun t u wx => ∃ k q : Nat, ∃ D : List Int, k ≤ n5 ∧ q ≤ T ∧ t = .int .i64 q ∧ u = .int .i64 k ∧ Hid (D = E5b ++ tail.take k) ∧ Hid (D.length = q) ∧ St w2 wx B G T D) (fun _ u _ => n5 - (intOf u).toNat)
                      case atStart => exact ⟨0, q, E5b, by omega, by omega, by go_num, rfl, by show _ = _; rw [List.take_zero, List.append_nil], HHQ5.out, hst5⟩
                      case round =>
                        clear hst5
                        obtain ⟨k, q, D, hk, hqle, rfl, rfl, HD, HQ, hst⟩ := hrel
                        by_cases hlt : k < n5
                        · obtain ⟨bs, os, ea, hbs, hc⟩ := TT5.out k (by rw [L5.out]; exact hlt)
                          have hcell := (hst.below.cell (p := ⟨bs, os + k, none⟩) (by show bs < G; have := HG.out; omega)).trans (hc k (by rw [L5.out]; exact hlt))
                          have hbx := byt_getD Y5.out k
                          have hts := take_snoc tail k (by rw [L5.out]; exact hlt)
                          obtain ⟨x, hx⟩ : ∃ x, x = tail.getD k 0 := ⟨_, rfl⟩
                          rw [← hx] at hcell hbx hts
                          have hqT : q < T := by
                            have e1 := HQ.out
                            rw [HD.out, List.length_append, List.length_take, L5.out] at e1
                            have e2 := HL6.out
                            omega
                          obtain ⟨v, hold, hfz⟩ := hst.cells HQ.out hqT
                          have hst' := hst.put HG.out HQ.out hqT x hbx
                          have HD' : Hid (D ++ [x] = E5b ++ tail.take (k + 1)) := by show _ = _; rw [HD.out, hts, List.append_assoc]
                          have HQ' : Hid ((D ++ [x]).length = q + 1) := by show _ = _; rw [List.length_append, HQ.out]; rfl
                          clear hst hx hts hc hbs HD HQ hbx
                          subst ea
                          go_wp2_with fail
                          go_roundw
                          case rel => exact ⟨k + 1, q + 1, D ++ [x], by omega, by omega, by go_num, by go_num, HD'.out, HQ'.out, hst'⟩
                          case measure => simp [intOf]; omega
                        · have ek : k = n5 := by omega
                          have hDE : D = E5b ++ tail := by rw [HD.out, ek, List.take_of_length_le (by rw [L5.out]; omega)]
                          obtain ⟨E6, hE6⟩ : ∃ E6, E6 = E5b ++ tail := ⟨_, rfl⟩
                          rw [← hE6] at hDE
                          rw [hDE] at HQ hst
                          have HE6 : Hid (E6 = E5b ++ tail) := hE6
                          have HLE6 : Hid (E6.length = la + n0 + (76 + 2 * h) + n2 + 1 + ld + n5) := by show _ = _; rw [hE6, List.length_append, HLE5.out, L5.out]
                          have hq6a : q ≤ la + n0 + (76 + 2 * h) + n2 + 1 + ld + n5 := by have e1 := HQ.out; rw [HLE6.out] at e1; omega
                          have hq6b : la + n0 + (76 + 2 * h) + n2 + 1 + ld + n5 ≤ q := by have e1 := HQ.out; rw [HLE6.out] at e1; omega
                          have hst6 := hst
                          have HHQ6 : Hid (E6.length = q) := HQ
                          clear hst HQ HD ek hDE hE6 hk
                          have hfull := hst6.full (by have e1 := HLE6.out; omega)
                          have hbel := hst6.below
                          have HX : Hid (E6 = Plain.ext ident F name d tail) := by
                            show _ = _
                            rw [HE6.out, HE5b.out, HE5.out, HE4.out, HE3.out, HE2.out, HE1.out, HE0.out, HA.out, HDn.out, ← L0.out]
                            unfold Plain.ext
                            simp
                          have HT6 : Hid (T = (Plain.ext ident F name d tail).length) := by show _ = _; rw [← HX.out, HLE6.out]; omega
                          clear hst6
                          go_wp2_with fail
                          go_ret
                          refine ⟨G, F, HFL.out, ?_, ?_, ?_, ?_⟩
                          · rw [← HT6.out]; rfl
                          · rw [← HX.out]; exact hfull.1
                          · rw [← HX.out]; exact hfull.2
                          · exact HBW.out.trans (hbel.mono hBG)

end Go.Proofs.Qxb6001092a
