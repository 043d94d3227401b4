/-
  THE WALKS of the two laws.
-/
import Derived.Test.Qxb6001092aBuild
import Derived.Test.Qxb6001092aUce
namespace Go.Proofs.Qxb6001092a
open Go.RowKit

def SomeBool (e : Ending) : Prop := ∃ r : Bool, e = .returned (.bool r)
theorem SomeBool.no : SomeBool (.returned (.bool false)) := ⟨_, rfl⟩
theorem SomeBool.yes : SomeBool (.returned (.bool true)) := ⟨_, rfl⟩

theorem Own.txt {w : World} {base g : Nat} {xs : List Int} (h : Own w base g xs) (hb : Byt xs) : Txt w g 0 xs := by
  refine ⟨fun i hi => ?_, byt_getD hb⟩
  have h1 := h.cellAt i (by omega)
  rw [Nat.zero_add, h1, List.getElem?_map, List.getElem?_eq_getElem hi, List.getD_eq_getElem?_getD, List.getElem?_eq_getElem hi]
  rfl

theorem Txt.take {w : World} {b o : Nat} {zs : List Int} (h : Txt w b o zs) (k : Nat) : Txt w b o (zs.take k) := by
  refine ⟨fun i hi => ?_, fun i => ?_⟩
  · rw [List.length_take] at hi
    rw [h.1 i (by omega), List.getD_eq_getElem?_getD, List.getD_eq_getElem?_getD, List.getElem?_take, if_pos (by omega)]
  · rw [List.getD_eq_getElem?_getD, List.getElem?_take]
    split
    · rw [← List.getD_eq_getElem?_getD]; exact h.2 i
    · simp

theorem ext_len (ident F name : List Int) (d : Nat) (tail : List Int) : (Plain.ext ident F name d tail).length = (Plain.enc ident.length).length + (ident.length + (F.length + (name.length + (1 + ((Plain.enc d).length + tail.length))))) := by
  unfold Plain.ext; simp; omega

theorem nameAt_ext (ident F name : List Int) (h d : Nat) (tail : List Int) (hi : ident.length ≤ 262144) (hF : F.length = 76 + 2 * h) (hn : ∀ x ∈ name, x ≠ 0) :
    nameAt (Plain.ext ident F name d tail) h < (Plain.ext ident F name d tail).length ∧ ∀ i, Plain.fz ((Plain.ext ident F name d tail).drop (nameAt (Plain.ext ident F name d tail) h)) = some i → nameAt (Plain.ext ident F name d tail) h + i + 1 < (Plain.ext ident F name d tail).length := by
  have hr := Plain.room_big
  have hv : Plain.vr 0 0 (Plain.ext ident F name d tail) = (ident.length, (Plain.enc ident.length).length) := Plain.vr_enc _ _ (by omega) (by unfold Plain.lim; omega)
  have hna : nameAt (Plain.ext ident F name d tail) h = (Plain.enc ident.length).length + (ident.length + 72 + 4 + 2 * h) := by unfold nameAt; rw [hv]
  have hl := ext_len ident F name d tail
  have he := Plain.enc_len d
  have hdrop : (Plain.ext ident F name d tail).drop ((Plain.enc ident.length).length + (ident.length + 72 + 4 + 2 * h)) = name ++ 0 :: (Plain.enc d ++ tail) := by
    unfold Plain.ext
    rw [List.drop_append, List.drop_of_length_le (by omega), List.nil_append, show (Plain.enc ident.length).length + (ident.length + 72 + 4 + 2 * h) - (Plain.enc ident.length).length = ident.length + (76 + 2 * h) from by omega,
      List.drop_append, List.drop_of_length_le (by omega), List.nil_append, show ident.length + (76 + 2 * h) - ident.length = F.length from by omega, List.drop_left]
  rw [hna, hl]
  refine ⟨by omega, fun i hf => ?_⟩
  rw [hdrop, Plain.fz_hit _ _ hn] at hf
  simp only [Option.some.injEq] at hf
  omega

theorem cut_ok (E : List Int) (h c : Nat) (hc : c < E.length) :
    (nameAt (E.take c) h ≤ c → nameAt (E.take c) h < E.length) ∧ ∀ i, Plain.fz ((E.take c).drop (nameAt (E.take c) h)) = some i → nameAt (E.take c) h + i + 1 < E.length := by
  refine ⟨fun h1 => by omega, fun i hf => ?_⟩
  have := fz_lt _ _ hf
  rw [List.length_drop, List.length_take] at this
  omega

set_option maxHeartbeats 1000000 in
theorem zz20 (a0 : Option Addr) (n0 c0 : Nat) (a1 : Option Addr) (n1 c1 : Nat) (a2 : Option Addr) (n2 c2 : Nat) (x : Int) (d : Int) (a5 : Option Addr) (n5 c5 : Nat) (w : World) (b0 : n0 ≤ 9223372036854775807) (b1 : n1 ≤ 9223372036854775807) (b2 : n2 ≤ 9223372036854775807) (b3 : n5 ≤ 9223372036854775807) :
    Calls Try.prog 20 #[.slice a0 n0 c0, .slice a1 n1 c1, .slice a2 n2 c2, .int .i64 x, .int .u64 d, .slice a5 n5 c5] w fun e w' => SomeBool e ∧ w' = w := by
  by_cases g0 : n0 ≤ 1048576
  · skip
    by_cases g1 : n1 ≤ 1048576
    · skip
      by_cases g2 : n0 + n1 ≤ 1048576
      · skip
        by_cases g3 : n2 ≤ 1048576
        · skip
          by_cases g4 : n0 + n1 + n2 ≤ 1048576
          · skip
            by_cases g5 : n5 ≤ 1048576
            · skip
              by_cases g6 : n0 + n1 + n2 + n5 ≤ 1048576
              · skip
                go_enter Try.func20, Try.ntmps20
                go_wp2
                go_ret
                exact ⟨by first | exact SomeBool.no | exact SomeBool.yes, rfl⟩
              · skip
                go_enter Try.func20, Try.ntmps20
                go_wp2
                go_ret
                exact ⟨by first | exact SomeBool.no | exact SomeBool.yes, rfl⟩
            · skip
              go_enter Try.func20, Try.ntmps20
              go_wp2
              go_ret
              exact ⟨by first | exact SomeBool.no | exact SomeBool.yes, rfl⟩
          · skip
            go_enter Try.func20, Try.ntmps20
            go_wp2
            go_ret
            exact ⟨by first | exact SomeBool.no | exact SomeBool.yes, rfl⟩
        · skip
          go_enter Try.func20, Try.ntmps20
          go_wp2
          go_ret
          exact ⟨by first | exact SomeBool.no | exact SomeBool.yes, rfl⟩
      · skip
        go_enter Try.func20, Try.ntmps20
        go_wp2
        go_ret
        exact ⟨by first | exact SomeBool.no | exact SomeBool.yes, rfl⟩
    · skip
      go_enter Try.func20, Try.ntmps20
      go_wp2
      go_ret
      exact ⟨by first | exact SomeBool.no | exact SomeBool.yes, rfl⟩
  · skip
    go_enter Try.func20, Try.ntmps20
    go_wp2
    go_ret
    exact ⟨by first | exact SomeBool.no | exact SomeBool.yes, rfl⟩

set_option maxHeartbeats 1000000 in
theorem zz24 (a0 : Option Addr) (n0 c0 : Nat) (a1 : Option Addr) (n1 c1 : Nat) (a2 : Option Addr) (n2 c2 : Nat) (x : Int) (d : Int) (w : World) (b0 : n0 ≤ 9223372036854775807) (b1 : n1 ≤ 9223372036854775807) (b2 : n2 ≤ 9223372036854775807) :
    Calls Try.prog 24 #[.slice a0 n0 c0, .slice a1 n1 c1, .slice a2 n2 c2, .int .i64 x, .int .i64 d] w fun e w' => SomeBool e ∧ w' = w := by
  by_cases g0 : n0 ≤ 1048576
  · skip
    by_cases g1 : n1 ≤ 1048576
    · skip
      by_cases g2 : n0 + n1 ≤ 1048576
      · skip
        by_cases g3 : n2 ≤ 1048576
        · skip
          by_cases g4 : n0 + n1 + n2 ≤ 1048576
          · skip
            go_enter Try.func24, Try.ntmps24
            go_wp2
            go_ret
            exact ⟨by first | exact SomeBool.no | exact SomeBool.yes, rfl⟩
          · skip
            go_enter Try.func24, Try.ntmps24
            go_wp2
            go_ret
            exact ⟨by first | exact SomeBool.no | exact SomeBool.yes, rfl⟩
        · skip
          go_enter Try.func24, Try.ntmps24
          go_wp2
          go_ret
          exact ⟨by first | exact SomeBool.no | exact SomeBool.yes, rfl⟩
      · skip
        go_enter Try.func24, Try.ntmps24
        go_wp2
        go_ret
        exact ⟨by first | exact SomeBool.no | exact SomeBool.yes, rfl⟩
    · skip
      go_enter Try.func24, Try.ntmps24
      go_wp2
      go_ret
      exact ⟨by first | exact SomeBool.no | exact SomeBool.yes, rfl⟩
  · skip
    go_enter Try.func24, Try.ntmps24
    go_wp2
    go_ret
    exact ⟨by first | exact SomeBool.no | exact SomeBool.yes, rfl⟩

set_option maxRecDepth 100000 in
set_option maxHeartbeats 4000000 in
theorem main7 (a0 : Option Addr) (n0 c0 : Nat) (ident : List Int) (a1 : Option Addr) (n1 c1 : Nat) (fill : List Int) (a2 : Option Addr) (n2 c2 : Nat) (name : List Int) (x : Int) (d : Nat) (a5 : Option Addr) (n5 c5 : Nat) (tail : List Int) (w : World)
    (l0 : ident.length = n0) (l1 : fill.length = n1) (l2 : name.length = n2) (l5 : tail.length = n5) (b0 : n0 ≤ 9223372036854775807) (b1 : n1 ≤ 9223372036854775807) (b2 : n2 ≤ 9223372036854775807) (b5 : n5 ≤ 9223372036854775807) (hd : d < 18446744073709551616)
    (t0 : Tl w a0 ident) (t1 : Tl w a1 fill) (t2 : Tl w a2 name) (t5 : Tl w a5 tail) (y0 : Byt ident) (y1 : Byt fill) (y2 : Byt name) (y5 : Byt tail) :
    Calls Try.prog 7 #[.slice a0 n0 c0, .slice a1 n1 c1, .slice a2 n2 c2, .int .i64 x, .int .u64 d, .slice a5 n5 c5] w fun e w' => e = .returned (.bool true) ∧ Below w.heap.size w w' := by
  have HZ := zz20 a0 n0 c0 a1 n1 c1 a2 n2 c2 x d a5 n5 c5 w b0 b1 b2 b5
  by_cases g0 : n0 ≤ 262144
  · skip
    by_cases g1 : n1 ≤ 262144
    · skip
      by_cases g2 : n2 ≤ 262144
      · skip
        by_cases g3 : n5 ≤ 262144
        · skip
          by_cases g4 : 0 ≤ x
          · skip
            by_cases g5 : x ≤ 65536
            · skip
              obtain ⟨h, rfl⟩ : ∃ h : Nat, x = h := ⟨x.toNat, by omega⟩
              have hh : h ≤ 65536 := by omega
              have HNUL := hasNul_any a2 n2 c2 name w l2 (by omega) t2
              have HBD := build_any a0 n0 c0 ident a1 n1 c1 fill a2 n2 c2 name h d a5 n5 c5 tail w l0 l1 l2 l5 (by omega) (by omega) (by omega) (by omega) hh hd t0 t1 t2 t5 y0 y1 y2 y5
              have L0 : Hid (ident.length = n0) := l0
              have L5 : Hid (tail.length = n5) := l5
              have L2 : Hid (name.length = n2) := l2
              clear t0 t1 t2 t5 y0 y1 y2 y5 l0 l1 l2 l5
              go_enter Try.func7, Try.ntmps7
              go_wp2_with fail
              refine HZ.mono ?_
              rintro e w1 ⟨⟨r, rfl⟩, hw1⟩
              subst hw1
              clear HZ
              cases r with
              | false =>
                go_wp2_with fail
                go_ret
                exact ⟨rfl, Below.refl _ _⟩
              | true =>
                go_wp2_with fail
                refine HNUL.mono ?_
                rintro e w1 ⟨hnul, hw1⟩
                subst hw1
                clear HNUL
                rcases hnul with he | ⟨he, hno⟩
                · rw [he]
                  clear he
                  go_wp2_with fail
                  go_ret
                  exact ⟨rfl, Below.refl _ _⟩
                · rw [he]
                  clear he
                  have HNO : Hid (∀ x ∈ name, x ≠ 0) := hno
                  clear hno
                  go_wp2_with fail
                  refine HBD.mono ?_
                  rintro e w2 ⟨g, F, hF, rfl, hown, hby, hbel⟩
                  clear HBD
                  have hna := nameAt_ext ident F name h d tail (by rw [L0.out]; omega) hF HNO.out
                  have hmod := Plain.uce_model ident F name h d tail (by rw [L0.out]; omega) hF HNO.out hd
                  have hlen := ext_len ident F name d tail
                  have he1 := enc_le ident.length
                  have he2 := enc_le d
                  rw [L0.out, L2.out, L5.out, hF] at hlen
                  rw [L0.out] at he1
                  obtain ⟨E, hE⟩ : ∃ E, E = Plain.ext ident F name d tail := ⟨_, rfl⟩
                  rw [← hE] at hna hmod hlen hown hby ⊢
                  obtain ⟨n, hn⟩ : ∃ n, E.length = n := ⟨_, rfl⟩
                  rw [hn] at hna hlen ⊢
                  have HC := zzUce_any g 0 n n E h w2 hn (by omega) hh (hown.txt hby) (Nat.le_refl _) (fun _ => hna.1) hna.2
                  rw [hmod] at HC
                  clear hna hmod hlen he1 he2 hE hn hown hby hF L0 L2 L5 HNO
                  by_cases hd0 : d = 0
                  · subst hd0
                    go_wp2_with fail
                    refine HC.mono ?_
                    rintro e w3 ⟨rfl, hw3⟩
                    subst hw3
                    clear HC
                    go_wp2_with fail
                    go_ret
                    exact ⟨rfl, hbel⟩
                  · rw [decide_eq_false hd0] at HC
                    have hd0' : ((d : Int) == 0) = false := by simp; omega
                    go_wp2_with fail
                    refine HC.mono ?_
                    rintro e w3 ⟨rfl, hw3⟩
                    subst hw3
                    clear HC
                    go_wp2_with fail
                    go_ret
                    exact ⟨rfl, hbel⟩
            · skip
              clear t0 t1 t2 t5 y0 y1 y2 y5 l0 l1 l2 l5
              go_enter Try.func7, Try.ntmps7
              go_wp2_with fail
              refine HZ.mono ?_
              rintro e w1 ⟨⟨r, rfl⟩, hw1⟩
              subst hw1
              clear HZ
              cases r with
              | false =>
                go_wp2_with fail
                go_ret
                exact ⟨rfl, Below.refl _ _⟩
              | true =>
                go_wp2_with fail
                go_ret
                exact ⟨rfl, Below.refl _ _⟩
          · skip
            clear t0 t1 t2 t5 y0 y1 y2 y5 l0 l1 l2 l5
            go_enter Try.func7, Try.ntmps7
            go_wp2_with fail
            refine HZ.mono ?_
            rintro e w1 ⟨⟨r, rfl⟩, hw1⟩
            subst hw1
            clear HZ
            cases r with
            | false =>
              go_wp2_with fail
              go_ret
              exact ⟨rfl, Below.refl _ _⟩
            | true =>
              go_wp2_with fail
              go_ret
              exact ⟨rfl, Below.refl _ _⟩
        · skip
          clear t0 t1 t2 t5 y0 y1 y2 y5 l0 l1 l2 l5
          go_enter Try.func7, Try.ntmps7
          go_wp2_with fail
          refine HZ.mono ?_
          rintro e w1 ⟨⟨r, rfl⟩, hw1⟩
          subst hw1
          clear HZ
          cases r with
          | false =>
            go_wp2_with fail
            go_ret
            exact ⟨rfl, Below.refl _ _⟩
          | true =>
            go_wp2_with fail
            go_ret
            exact ⟨rfl, Below.refl _ _⟩
      · skip
        clear t0 t1 t2 t5 y0 y1 y2 y5 l0 l1 l2 l5
        go_enter Try.func7, Try.ntmps7
        go_wp2_with fail
        refine HZ.mono ?_
        rintro e w1 ⟨⟨r, rfl⟩, hw1⟩
        subst hw1
        clear HZ
        cases r with
        | false =>
          go_wp2_with fail
          go_ret
          exact ⟨rfl, Below.refl _ _⟩
        | true =>
          go_wp2_with fail
          go_ret
          exact ⟨rfl, Below.refl _ _⟩
    · skip
      clear t0 t1 t2 t5 y0 y1 y2 y5 l0 l1 l2 l5
      go_enter Try.func7, Try.ntmps7
      go_wp2_with fail
      refine HZ.mono ?_
      rintro e w1 ⟨⟨r, rfl⟩, hw1⟩
      subst hw1
      clear HZ
      cases r with
      | false =>
        go_wp2_with fail
        go_ret
        exact ⟨rfl, Below.refl _ _⟩
      | true =>
        go_wp2_with fail
        go_ret
        exact ⟨rfl, Below.refl _ _⟩
  · skip
    clear t0 t1 t2 t5 y0 y1 y2 y5 l0 l1 l2 l5
    go_enter Try.func7, Try.ntmps7
    go_wp2_with fail
    refine HZ.mono ?_
    rintro e w1 ⟨⟨r, rfl⟩, hw1⟩
    subst hw1
    clear HZ
    cases r with
    | false =>
      go_wp2_with fail
      go_ret
      exact ⟨rfl, Below.refl _ _⟩
    | true =>
      go_wp2_with fail
      go_ret
      exact ⟨rfl, Below.refl _ _⟩

set_option maxRecDepth 100000 in
set_option maxHeartbeats 4000000 in
theorem main8 (a0 : Option Addr) (n0 c0 : Nat) (ident : List Int) (a1 : Option Addr) (n1 c1 : Nat) (fill : List Int) (a2 : Option Addr) (n2 c2 : Nat) (name : List Int) (x : Int) (cut : Int) (w : World)
    (l0 : ident.length = n0) (l1 : fill.length = n1) (l2 : name.length = n2) (b0 : n0 ≤ 9223372036854775807) (b1 : n1 ≤ 9223372036854775807) (b2 : n2 ≤ 9223372036854775807)
    (t0 : Tl w a0 ident) (t1 : Tl w a1 fill) (t2 : Tl w a2 name) (y0 : Byt ident) (y1 : Byt fill) (y2 : Byt name) :
    Calls Try.prog 8 #[.slice a0 n0 c0, .slice a1 n1 c1, .slice a2 n2 c2, .int .i64 x, .int .i64 cut] w fun e w' => e = .returned (.bool true) ∧ Below w.heap.size w w' := by
  have HZ := zz24 a0 n0 c0 a1 n1 c1 a2 n2 c2 x cut w b0 b1 b2
  by_cases g0 : n0 ≤ 262144
  · skip
    by_cases g1 : n1 ≤ 262144
    · skip
      by_cases g2 : n2 ≤ 262144
      · skip
        by_cases g3 : 0 ≤ x
        · skip
          by_cases g4 : x ≤ 65536
          · skip
            obtain ⟨h, rfl⟩ : ∃ h : Nat, x = h := ⟨x.toNat, by omega⟩
            have hh : h ≤ 65536 := by omega
            have HNUL := hasNul_any a2 n2 c2 name w l2 (by omega) t2
            have HBD := build_any a0 n0 c0 ident a1 n1 c1 fill a2 n2 c2 name h 0 none 0 0 [] w l0 l1 l2 rfl (by omega) (by omega) (by omega) (by omega) hh (by omega) t0 t1 t2 (fun k hk => absurd hk (Nat.not_lt_zero _)) y0 y1 y2 (fun x hx => by simp at hx)
            have L0 : Hid (ident.length = n0) := l0
            have L2 : Hid (name.length = n2) := l2
            clear t0 t1 t2 y0 y1 y2 l0 l1 l2
            go_enter Try.func8, Try.ntmps8
            go_wp2_with fail
            refine HZ.mono ?_
            rintro e w1 ⟨⟨r, rfl⟩, hw1⟩
            subst hw1
            clear HZ
            cases r with
            | false =>
              go_wp2_with fail
              go_ret
              exact ⟨rfl, Below.refl _ _⟩
            | true =>
              go_wp2_with fail
              refine HNUL.mono ?_
              rintro e w1 ⟨hnul, hw1⟩
              subst hw1
              clear HNUL
              rcases hnul with he | ⟨he, hno⟩
              · rw [he]
                clear he
                go_wp2_with fail
                go_ret
                exact ⟨rfl, Below.refl _ _⟩
              · rw [he]
                clear he
                have HNO : Hid (∀ x ∈ name, x ≠ 0) := hno
                clear hno
                go_wp2_with fail
                refine HBD.mono ?_
                rintro e w2 ⟨g, F, hF, rfl, hown, hby, hbel⟩
                clear HBD
                have hna := nameAt_ext ident F name h 0 [] (by rw [L0.out]; omega) hF HNO.out
                have hmod := Plain.uce_model ident F name h 0 [] (by rw [L0.out]; omega) hF HNO.out (by omega)
                have hcutl := fun c hc => Plain.uce_cut ident F name h c (by rw [L0.out]; omega) hF HNO.out hc
                have hlen := ext_len ident F name 0 []
                have he1 := enc_le ident.length
                have he2 := enc_le 0
                rw [L0.out, L2.out, hF] at hlen
                rw [L0.out] at he1
                obtain ⟨E, hE⟩ : ∃ E, E = Plain.ext ident F name 0 [] := ⟨_, rfl⟩
                rw [← hE] at hna hmod hlen hown hby hcutl ⊢
                obtain ⟨n, hn⟩ : ∃ n, E.length = n := ⟨_, rfl⟩
                rw [hn] at hna hlen hcutl ⊢
                simp only [List.length_nil] at hlen
                have hnb : n ≤ 1073741824 := by omega
                have HC := zzUce_any g 0 n n E h w2 hn (by omega) hh (hown.txt hby) (Nat.le_refl _) (fun _ => hna.1) hna.2
                rw [hmod] at HC
                by_cases hc0 : 0 ≤ cut
                · by_cases hc1 : cut < n
                  · obtain ⟨c, rfl⟩ : ∃ c : Nat, cut = c := ⟨cut.toNat, by omega⟩
                    have hcn : c < n := by omega
                    have hok := cut_ok E h c (by omega)
                    rw [hn] at hok
                    have HC2 := zzUce_any g 0 c n (E.take c) h w2 (by rw [List.length_take, hn]; omega) (by omega) hh ((hown.txt hby).take c) (by omega) hok.1 hok.2
                    rw [hcutl c hcn] at HC2
                    clear hna hmod hlen he1 he2 hE hn hown hby hF L0 L2 HNO hcutl hok
                    go_wp2_with fail
                    refine HC.mono ?_
                    rintro e w3 ⟨rfl, hw3⟩
                    subst hw3
                    clear HC
                    go_wp2_with fail
                    refine HC2.mono ?_
                    rintro e w3 ⟨rfl, hw3⟩
                    subst hw3
                    clear HC2
                    go_wp2_with fail
                    go_ret
                    exact ⟨rfl, hbel⟩
                  · clear hna hmod hlen he1 he2 hE hn hown hby hF L0 L2 HNO hcutl HC
                    go_wp2_with fail
                    go_ret
                    exact ⟨rfl, hbel⟩
                · clear hna hmod hlen he1 he2 hE hn hown hby hF L0 L2 HNO hcutl HC
                  go_wp2_with fail
                  go_ret
                  exact ⟨rfl, hbel⟩
          · skip
            clear t0 t1 t2 y0 y1 y2 l0 l1 l2
            go_enter Try.func8, Try.ntmps8
            go_wp2_with fail
            refine HZ.mono ?_
            rintro e w1 ⟨⟨r, rfl⟩, hw1⟩
            subst hw1
            clear HZ
            cases r with
            | false =>
              go_wp2_with fail
              go_ret
              exact ⟨rfl, Below.refl _ _⟩
            | true =>
              go_wp2_with fail
              go_ret
              exact ⟨rfl, Below.refl _ _⟩
        · skip
          clear t0 t1 t2 y0 y1 y2 l0 l1 l2
          go_enter Try.func8, Try.ntmps8
          go_wp2_with fail
          refine HZ.mono ?_
          rintro e w1 ⟨⟨r, rfl⟩, hw1⟩
          subst hw1
          clear HZ
          cases r with
          | false =>
            go_wp2_with fail
            go_ret
            exact ⟨rfl, Below.refl _ _⟩
          | true =>
            go_wp2_with fail
            go_ret
            exact ⟨rfl, Below.refl _ _⟩
      · skip
        clear t0 t1 t2 y0 y1 y2 l0 l1 l2
        go_enter Try.func8, Try.ntmps8
        go_wp2_with fail
        refine HZ.mono ?_
        rintro e w1 ⟨⟨r, rfl⟩, hw1⟩
        subst hw1
        clear HZ
        cases r with
        | false =>
          go_wp2_with fail
          go_ret
          exact ⟨rfl, Below.refl _ _⟩
        | true =>
          go_wp2_with fail
          go_ret
          exact ⟨rfl, Below.refl _ _⟩
    · skip
      clear t0 t1 t2 y0 y1 y2 l0 l1 l2
      go_enter Try.func8, Try.ntmps8
      go_wp2_with fail
      refine HZ.mono ?_
      rintro e w1 ⟨⟨r, rfl⟩, hw1⟩
      subst hw1
      clear HZ
      cases r with
      | false =>
        go_wp2_with fail
        go_ret
        exact ⟨rfl, Below.refl _ _⟩
      | true =>
        go_wp2_with fail
        go_ret
        exact ⟨rfl, Below.refl _ _⟩
  · skip
    clear t0 t1 t2 y0 y1 y2 l0 l1 l2
    go_enter Try.func8, Try.ntmps8
    go_wp2_with fail
    refine HZ.mono ?_
    rintro e w1 ⟨⟨r, rfl⟩, hw1⟩
    subst hw1
    clear HZ
    cases r with
    | false =>
      go_wp2_with fail
      go_ret
      exact ⟨rfl, Below.refl _ _⟩
    | true =>
      go_wp2_with fail
      go_ret
      exact ⟨rfl, Below.refl _ _⟩

end Go.Proofs.Qxb6001092a
