/-
  THE WALK of FnReadRenderRoundTrip, class by class.
-/
import Derived.Test.Qxb6000823aWalk
namespace Go.Proofs.Qxb6000823a
open Go.RowKit

/-- None ahead of the first, though more text follows. -/
theorem noOcc_more {t p b : List UInt8} (h : Lib.NoOcc (t ++ p) p t.length) : Lib.NoOcc (t ++ (p ++ b)) p t.length := by
  intro j hj
  have h1 := h j hj
  rw [Lib.occAt_iff_take _ _ _ (by simp; omega)] at h1 ⊢
  rw [← h1]
  congr 1
  rw [← List.append_assoc, List.drop_append_of_le_length (by simp; omega), List.take_append_of_le_length (by simp; omega)]

set_option maxRecDepth 100000 in
set_option maxHeartbeats 2000000 in
theorem main1 (x : Int) (t n : ByteArray) (m : Int) (w : World) (h0 : 0 ≤ x) (h1 : x ≤ 255) (hx : x % 5 = 1) (hst : t.size ≤ 9223372036854775807) (hsn : n.size ≤ 9223372036854775807) (hm : w.cell? ⟨0, 0, none⟩ = some (.int .i64 m)) :
    Calls Try.prog 5 #[.int .u8 x, .string t, .string n] w fun e w' => e = .returned (.bool true) ∧ Below w.heap.size w w' := by
  have HZ := zzBytes_any x t n w hst hsn
  have C1 := fun wx => formHasTask_any x 1 wx h0 h1 hx (by decide)
  have C2 := fun wx => formHasName_any x 1 wx h0 h1 hx (by decide)
  have C3 := fun wx => taskNext_any x 1 wx h0 h1 hx (by decide)
  have C4 := fun wx => formOf_any x 1 wx h0 h1 hx (by decide)
  rw [show hasTask 1 = false from rfl] at C1
  rw [show hasName 1 = true from rfl] at C2
  rw [show nextOf 1 = ⟨#[]⟩ from rfl] at C3
  rw [show formOf 1 = ⟨#[105, 110, 112, 117, 116, 115, 46, 112, 97, 114, 97, 109, 101, 116, 101, 114, 115, 46, 60, 110, 97, 109, 101, 62]⟩ from rfl] at C4
  by_cases g1 : t.size ≤ 1048576
  · skip
    by_cases g2 : n.size ≤ 1048576
    · skip
      by_cases g3 : t.size + n.size ≤ 1048576
      · skip
        by_cases gn : n.toList.isEmpty = false
        · skip
          go_enter Try.func5, Try.ntmps5
          go_wp2_with fail
          refine HZ.mono ?_
          rintro e w1 ⟨⟨r, rfl⟩, hw1⟩
          subst hw1
          clear HZ
          cases r with
          | false =>
            go_wp2_with fail
            go_ret
            exact ⟨rfl, Below.refl _ _⟩
          | true =>
            go_wp2_with (first | (go_at_call 11; refine (C1 _).mono ?_; rintro e w2 ⟨rfl, hw2⟩; subst hw2) | (go_at_call 12; refine (C2 _).mono ?_; rintro e w2 ⟨rfl, hw2⟩; subst hw2) | (go_at_call 13; refine (C3 _).mono ?_; rintro e w2 ⟨rfl, hw2⟩; subst hw2) | (go_at_call 15; refine (C4 _).mono ?_; rintro e w2 ⟨rfl, hw2⟩; subst hw2))
            refine (renderRef_any x 1 ⟨#[]⟩ n _ h0 h1 hx (by decide) (by decide) g2).mono ?_
            rintro e w2 ⟨⟨T, rfl, hT⟩, hw2⟩
            subst hw2
            have hT2 : T.data.toList = [105, 110, 112, 117, 116, 115, 46, 112, 97, 114, 97, 109, 101, 116, 101, 114, 115, 46] ++ n.data.toList := by rw [hT]; simp [render]
            have HR := zzRead_of ⟨#[105, 110, 112, 117, 116, 115, 46, 112, 97, 114, 97, 109, 101, 116, 101, 114, 115, 46, 60, 110, 97, 109, 101, 62]⟩ T ⟨#[105, 110, 112, 117, 116, 115, 46, 112, 97, 114, 97, 109, 101, 116, 101, 114, 115, 46, 60, 110, 97, 109, 101, 62]⟩ ⟨#[]⟩ n m w2 hm (fun wx hmx => read1 T n m wx hT2 g2 gn hmx)
            clear hT hT2
            go_wp2_with (first | (go_at_call 11; refine (C1 _).mono ?_; rintro e w2 ⟨rfl, hw2⟩; subst hw2) | (go_at_call 12; refine (C2 _).mono ?_; rintro e w2 ⟨rfl, hw2⟩; subst hw2) | (go_at_call 13; refine (C3 _).mono ?_; rintro e w2 ⟨rfl, hw2⟩; subst hw2) | (go_at_call 15; refine (C4 _).mono ?_; rintro e w2 ⟨rfl, hw2⟩; subst hw2))
            refine HR.mono ?_
            rintro e w3 ⟨rfl, hb⟩
            clear HR
            go_wp2_with (first | (go_at_call 11; refine (C1 _).mono ?_; rintro e w2 ⟨rfl, hw2⟩; subst hw2) | (go_at_call 12; refine (C2 _).mono ?_; rintro e w2 ⟨rfl, hw2⟩; subst hw2) | (go_at_call 13; refine (C3 _).mono ?_; rintro e w2 ⟨rfl, hw2⟩; subst hw2) | (go_at_call 15; refine (C4 _).mono ?_; rintro e w2 ⟨rfl, hw2⟩; subst hw2))
            go_ret
            exact ⟨rfl, hb.alloc hb.size _⟩
        · skip
          have gn' : n.toList.isEmpty = true := by simpa using gn
          go_enter Try.func5, Try.ntmps5
          go_wp2_with fail
          refine HZ.mono ?_
          rintro e w1 ⟨⟨r, rfl⟩, hw1⟩
          subst hw1
          clear HZ
          cases r with
          | false =>
            go_wp2_with fail
            go_ret
            exact ⟨rfl, Below.refl _ _⟩
          | true =>
            go_wp2_with (first | (go_at_call 11; refine (C1 _).mono ?_; rintro e w2 ⟨rfl, hw2⟩; subst hw2) | (go_at_call 12; refine (C2 _).mono ?_; rintro e w2 ⟨rfl, hw2⟩; subst hw2) | (go_at_call 13; refine (C3 _).mono ?_; rintro e w2 ⟨rfl, hw2⟩; subst hw2) | (go_at_call 15; refine (C4 _).mono ?_; rintro e w2 ⟨rfl, hw2⟩; subst hw2))
            go_ret
            exact ⟨rfl, Below.refl _ _⟩
      · skip
        go_enter Try.func5, Try.ntmps5
        go_wp2_with fail
        refine HZ.mono ?_
        rintro e w1 ⟨⟨r, rfl⟩, hw1⟩
        subst hw1
        clear HZ
        cases r with
        | false =>
          go_wp2_with fail
          go_ret
          exact ⟨rfl, Below.refl _ _⟩
        | true =>
          go_wp2_with (first | (go_at_call 11; refine (C1 _).mono ?_; rintro e w2 ⟨rfl, hw2⟩; subst hw2) | (go_at_call 12; refine (C2 _).mono ?_; rintro e w2 ⟨rfl, hw2⟩; subst hw2) | (go_at_call 13; refine (C3 _).mono ?_; rintro e w2 ⟨rfl, hw2⟩; subst hw2) | (go_at_call 15; refine (C4 _).mono ?_; rintro e w2 ⟨rfl, hw2⟩; subst hw2))
          go_ret
          exact ⟨rfl, Below.refl _ _⟩
    · skip
      go_enter Try.func5, Try.ntmps5
      go_wp2_with fail
      refine HZ.mono ?_
      rintro e w1 ⟨⟨r, rfl⟩, hw1⟩
      subst hw1
      clear HZ
      cases r with
      | false =>
        go_wp2_with fail
        go_ret
        exact ⟨rfl, Below.refl _ _⟩
      | true =>
        go_wp2_with (first | (go_at_call 11; refine (C1 _).mono ?_; rintro e w2 ⟨rfl, hw2⟩; subst hw2) | (go_at_call 12; refine (C2 _).mono ?_; rintro e w2 ⟨rfl, hw2⟩; subst hw2) | (go_at_call 13; refine (C3 _).mono ?_; rintro e w2 ⟨rfl, hw2⟩; subst hw2) | (go_at_call 15; refine (C4 _).mono ?_; rintro e w2 ⟨rfl, hw2⟩; subst hw2))
        go_ret
        exact ⟨rfl, Below.refl _ _⟩
  · skip
    go_enter Try.func5, Try.ntmps5
    go_wp2_with fail
    refine HZ.mono ?_
    rintro e w1 ⟨⟨r, rfl⟩, hw1⟩
    subst hw1
    clear HZ
    cases r with
    | false =>
      go_wp2_with fail
      go_ret
      exact ⟨rfl, Below.refl _ _⟩
    | true =>
      go_wp2_with (first | (go_at_call 11; refine (C1 _).mono ?_; rintro e w2 ⟨rfl, hw2⟩; subst hw2) | (go_at_call 12; refine (C2 _).mono ?_; rintro e w2 ⟨rfl, hw2⟩; subst hw2) | (go_at_call 13; refine (C3 _).mono ?_; rintro e w2 ⟨rfl, hw2⟩; subst hw2) | (go_at_call 15; refine (C4 _).mono ?_; rintro e w2 ⟨rfl, hw2⟩; subst hw2))
      go_ret
      exact ⟨rfl, Below.refl _ _⟩

set_option maxRecDepth 100000 in
set_option maxHeartbeats 2000000 in
theorem main3 (x : Int) (t n : ByteArray) (m : Int) (w : World) (h0 : 0 ≤ x) (h1 : x ≤ 255) (hx : x % 5 = 3) (hst : t.size ≤ 9223372036854775807) (hsn : n.size ≤ 9223372036854775807) (hm : w.cell? ⟨0, 0, none⟩ = some (.int .i64 m)) :
    Calls Try.prog 5 #[.int .u8 x, .string t, .string n] w fun e w' => e = .returned (.bool true) ∧ Below w.heap.size w w' := by
  have HZ := zzBytes_any x t n w hst hsn
  have C1 := fun wx => formHasTask_any x 3 wx h0 h1 hx (by decide)
  have C2 := fun wx => formHasName_any x 3 wx h0 h1 hx (by decide)
  have C3 := fun wx => taskNext_any x 3 wx h0 h1 hx (by decide)
  have C4 := fun wx => formOf_any x 3 wx h0 h1 hx (by decide)
  rw [show hasTask 3 = true from rfl] at C1
  rw [show hasName 3 = false from rfl] at C2
  rw [show nextOf 3 = ⟨#[]⟩ from rfl] at C3
  rw [show formOf 3 = ⟨#[116, 97, 115, 107, 115, 46, 60, 116, 97, 115, 107, 62, 46, 112, 104, 97, 115, 101]⟩ from rfl] at C4
  by_cases g1 : t.size ≤ 1048576
  · skip
    by_cases g2 : n.size ≤ 1048576
    · skip
      by_cases g3 : t.size + n.size ≤ 1048576
      · skip
        by_cases gt : t.toList.isEmpty = false
        · skip
          go_enter Try.func5, Try.ntmps5
          go_wp2_with fail
          refine HZ.mono ?_
          rintro e w1 ⟨⟨r, rfl⟩, hw1⟩
          subst hw1
          clear HZ
          cases r with
          | false =>
            go_wp2_with fail
            go_ret
            exact ⟨rfl, Below.refl _ _⟩
          | true =>
            go_wp2_with (first | (go_at_call 11; refine (C1 _).mono ?_; rintro e w2 ⟨rfl, hw2⟩; subst hw2) | (go_at_call 12; refine (C2 _).mono ?_; rintro e w2 ⟨rfl, hw2⟩; subst hw2) | (go_at_call 13; refine (C3 _).mono ?_; rintro e w2 ⟨rfl, hw2⟩; subst hw2) | (go_at_call 15; refine (C4 _).mono ?_; rintro e w2 ⟨rfl, hw2⟩; subst hw2))
            refine (renderRef_any x 3 t ⟨#[]⟩ _ h0 h1 hx (by decide) g1 (by decide)).mono ?_
            rintro e w2 ⟨⟨T, rfl, hT⟩, hw2⟩
            subst hw2
            have hT2 : T.data.toList = [116, 97, 115, 107, 115, 46] ++ (t.data.toList ++ [46, 112, 104, 97, 115, 101]) := by rw [hT]; simp [render]
            have HR := zzRead_of ⟨#[116, 97, 115, 107, 115, 46, 60, 116, 97, 115, 107, 62, 46, 112, 104, 97, 115, 101]⟩ T ⟨#[116, 97, 115, 107, 115, 46, 60, 116, 97, 115, 107, 62, 46, 112, 104, 97, 115, 101]⟩ t ⟨#[]⟩ m w2 hm (fun wx hmx => read3 T t m wx hT2 g1 gt hmx)
            clear hT hT2
            go_wp2_with (first | (go_at_call 11; refine (C1 _).mono ?_; rintro e w2 ⟨rfl, hw2⟩; subst hw2) | (go_at_call 12; refine (C2 _).mono ?_; rintro e w2 ⟨rfl, hw2⟩; subst hw2) | (go_at_call 13; refine (C3 _).mono ?_; rintro e w2 ⟨rfl, hw2⟩; subst hw2) | (go_at_call 15; refine (C4 _).mono ?_; rintro e w2 ⟨rfl, hw2⟩; subst hw2))
            refine HR.mono ?_
            rintro e w3 ⟨rfl, hb⟩
            clear HR
            go_wp2_with (first | (go_at_call 11; refine (C1 _).mono ?_; rintro e w2 ⟨rfl, hw2⟩; subst hw2) | (go_at_call 12; refine (C2 _).mono ?_; rintro e w2 ⟨rfl, hw2⟩; subst hw2) | (go_at_call 13; refine (C3 _).mono ?_; rintro e w2 ⟨rfl, hw2⟩; subst hw2) | (go_at_call 15; refine (C4 _).mono ?_; rintro e w2 ⟨rfl, hw2⟩; subst hw2))
            go_ret
            exact ⟨rfl, hb.alloc hb.size _⟩
        · skip
          have gt' : t.toList.isEmpty = true := by simpa using gt
          go_enter Try.func5, Try.ntmps5
          go_wp2_with fail
          refine HZ.mono ?_
          rintro e w1 ⟨⟨r, rfl⟩, hw1⟩
          subst hw1
          clear HZ
          cases r with
          | false =>
            go_wp2_with fail
            go_ret
            exact ⟨rfl, Below.refl _ _⟩
          | true =>
            go_wp2_with (first | (go_at_call 11; refine (C1 _).mono ?_; rintro e w2 ⟨rfl, hw2⟩; subst hw2) | (go_at_call 12; refine (C2 _).mono ?_; rintro e w2 ⟨rfl, hw2⟩; subst hw2) | (go_at_call 13; refine (C3 _).mono ?_; rintro e w2 ⟨rfl, hw2⟩; subst hw2) | (go_at_call 15; refine (C4 _).mono ?_; rintro e w2 ⟨rfl, hw2⟩; subst hw2))
            go_ret
            exact ⟨rfl, Below.refl _ _⟩
      · skip
        go_enter Try.func5, Try.ntmps5
        go_wp2_with fail
        refine HZ.mono ?_
        rintro e w1 ⟨⟨r, rfl⟩, hw1⟩
        subst hw1
        clear HZ
        cases r with
        | false =>
          go_wp2_with fail
          go_ret
          exact ⟨rfl, Below.refl _ _⟩
        | true =>
          go_wp2_with (first | (go_at_call 11; refine (C1 _).mono ?_; rintro e w2 ⟨rfl, hw2⟩; subst hw2) | (go_at_call 12; refine (C2 _).mono ?_; rintro e w2 ⟨rfl, hw2⟩; subst hw2) | (go_at_call 13; refine (C3 _).mono ?_; rintro e w2 ⟨rfl, hw2⟩; subst hw2) | (go_at_call 15; refine (C4 _).mono ?_; rintro e w2 ⟨rfl, hw2⟩; subst hw2))
          go_ret
          exact ⟨rfl, Below.refl _ _⟩
    · skip
      go_enter Try.func5, Try.ntmps5
      go_wp2_with fail
      refine HZ.mono ?_
      rintro e w1 ⟨⟨r, rfl⟩, hw1⟩
      subst hw1
      clear HZ
      cases r with
      | false =>
        go_wp2_with fail
        go_ret
        exact ⟨rfl, Below.refl _ _⟩
      | true =>
        go_wp2_with (first | (go_at_call 11; refine (C1 _).mono ?_; rintro e w2 ⟨rfl, hw2⟩; subst hw2) | (go_at_call 12; refine (C2 _).mono ?_; rintro e w2 ⟨rfl, hw2⟩; subst hw2) | (go_at_call 13; refine (C3 _).mono ?_; rintro e w2 ⟨rfl, hw2⟩; subst hw2) | (go_at_call 15; refine (C4 _).mono ?_; rintro e w2 ⟨rfl, hw2⟩; subst hw2))
        go_ret
        exact ⟨rfl, Below.refl _ _⟩
  · skip
    go_enter Try.func5, Try.ntmps5
    go_wp2_with fail
    refine HZ.mono ?_
    rintro e w1 ⟨⟨r, rfl⟩, hw1⟩
    subst hw1
    clear HZ
    cases r with
    | false =>
      go_wp2_with fail
      go_ret
      exact ⟨rfl, Below.refl _ _⟩
    | true =>
      go_wp2_with (first | (go_at_call 11; refine (C1 _).mono ?_; rintro e w2 ⟨rfl, hw2⟩; subst hw2) | (go_at_call 12; refine (C2 _).mono ?_; rintro e w2 ⟨rfl, hw2⟩; subst hw2) | (go_at_call 13; refine (C3 _).mono ?_; rintro e w2 ⟨rfl, hw2⟩; subst hw2) | (go_at_call 15; refine (C4 _).mono ?_; rintro e w2 ⟨rfl, hw2⟩; subst hw2))
      go_ret
      exact ⟨rfl, Below.refl _ _⟩

set_option maxRecDepth 100000 in
set_option maxHeartbeats 2000000 in
theorem main2 (x : Int) (t n : ByteArray) (m : Int) (w : World) (h0 : 0 ≤ x) (h1 : x ≤ 255) (hx : x % 5 = 2) (hst : t.size ≤ 9223372036854775807) (hsn : n.size ≤ 9223372036854775807) (hm : w.cell? ⟨0, 0, none⟩ = some (.int .i64 m)) :
    Calls Try.prog 5 #[.int .u8 x, .string t, .string n] w fun e w' => e = .returned (.bool true) ∧ Below w.heap.size w w' := by
  have HZ := zzBytes_any x t n w hst hsn
  have C1 := fun wx => formHasTask_any x 2 wx h0 h1 hx (by decide)
  have C2 := fun wx => formHasName_any x 2 wx h0 h1 hx (by decide)
  have C3 := fun wx => taskNext_any x 2 wx h0 h1 hx (by decide)
  have C4 := fun wx => formOf_any x 2 wx h0 h1 hx (by decide)
  rw [show hasTask 2 = false from rfl] at C1
  rw [show hasName 2 = true from rfl] at C2
  rw [show nextOf 2 = ⟨#[]⟩ from rfl] at C3
  rw [show formOf 2 = ⟨#[108, 111, 111, 112, 95, 105, 116, 101, 114, 46, 60, 110, 97, 109, 101, 62]⟩ from rfl] at C4
  by_cases g1 : t.size ≤ 1048576
  · skip
    by_cases g2 : n.size ≤ 1048576
    · skip
      by_cases g3 : t.size + n.size ≤ 1048576
      · skip
        by_cases gn : n.toList.isEmpty = false
        · skip
          go_enter Try.func5, Try.ntmps5
          go_wp2_with fail
          refine HZ.mono ?_
          rintro e w1 ⟨⟨r, rfl⟩, hw1⟩
          subst hw1
          clear HZ
          cases r with
          | false =>
            go_wp2_with fail
            go_ret
            exact ⟨rfl, Below.refl _ _⟩
          | true =>
            go_wp2_with (first | (go_at_call 11; refine (C1 _).mono ?_; rintro e w2 ⟨rfl, hw2⟩; subst hw2) | (go_at_call 12; refine (C2 _).mono ?_; rintro e w2 ⟨rfl, hw2⟩; subst hw2) | (go_at_call 13; refine (C3 _).mono ?_; rintro e w2 ⟨rfl, hw2⟩; subst hw2) | (go_at_call 15; refine (C4 _).mono ?_; rintro e w2 ⟨rfl, hw2⟩; subst hw2))
            refine (renderRef_any x 2 ⟨#[]⟩ n _ h0 h1 hx (by decide) (by decide) g2).mono ?_
            rintro e w2 ⟨⟨T, rfl, hT⟩, hw2⟩
            subst hw2
            have hT2 : T.data.toList = [108, 111, 111, 112, 95, 105, 116, 101, 114, 46] ++ n.data.toList := by rw [hT]; simp [render]
            have HR := zzRead_of ⟨#[108, 111, 111, 112, 95, 105, 116, 101, 114, 46, 60, 110, 97, 109, 101, 62]⟩ T ⟨#[108, 111, 111, 112, 95, 105, 116, 101, 114, 46, 60, 110, 97, 109, 101, 62]⟩ ⟨#[]⟩ n m w2 hm (fun wx hmx => read2 T n m wx hT2 g2 gn hmx)
            clear hT hT2
            go_wp2_with (first | (go_at_call 11; refine (C1 _).mono ?_; rintro e w2 ⟨rfl, hw2⟩; subst hw2) | (go_at_call 12; refine (C2 _).mono ?_; rintro e w2 ⟨rfl, hw2⟩; subst hw2) | (go_at_call 13; refine (C3 _).mono ?_; rintro e w2 ⟨rfl, hw2⟩; subst hw2) | (go_at_call 15; refine (C4 _).mono ?_; rintro e w2 ⟨rfl, hw2⟩; subst hw2))
            refine HR.mono ?_
            rintro e w3 ⟨rfl, hb⟩
            clear HR
            obtain ⟨S, hS⟩ : ∃ S : ByteArray, S = ⟨#[105, 116, 101, 114, 97, 116, 111, 114, 46]⟩ ++ n := ⟨_, rfl⟩
            have hS2 : S.data.toList = [105, 116, 101, 114, 97, 116, 111, 114, 46] ++ n.data.toList := by rw [hS, app_list]
            have HR2 := fun o => zzRead_of ⟨#[108, 111, 111, 112, 95, 105, 116, 101, 114, 46, 60, 110, 97, 109, 101, 62]⟩ S ⟨#[108, 111, 111, 112, 95, 105, 116, 101, 114, 46, 60, 110, 97, 109, 101, 62]⟩ ⟨#[]⟩ n m (w3.alloc o) (cell_later (w := w2) (hb.alloc hb.size o) hm) (fun wx hmx => reada S n m wx hS2 g2 gn hmx)
            have hS' := hS.symm
            clear hS hS2
            go_wp2_with (first | (go_at_call 11; refine (C1 _).mono ?_; rintro e w2 ⟨rfl, hw2⟩; subst hw2) | (go_at_call 12; refine (C2 _).mono ?_; rintro e w2 ⟨rfl, hw2⟩; subst hw2) | (go_at_call 13; refine (C3 _).mono ?_; rintro e w2 ⟨rfl, hw2⟩; subst hw2) | (go_at_call 15; refine (C4 _).mono ?_; rintro e w2 ⟨rfl, hw2⟩; subst hw2))
            refine (HR2 _).mono ?_
            rintro e w4 ⟨rfl, hb4⟩
            clear HR2
            obtain ⟨hc, hf⟩ := bcell hb4
            have hz : w3.heap.size < w4.heap.size := by have := hb4.size; simp at this; omega
            have q0 := hc w3.heap.size 0 (by simp)
            have q1 := hc w3.heap.size 1 (by simp)
            have q2 := hc w3.heap.size 2 (by simp)
            have HB : Hid (Below w2.heap.size w2 w4) := (hb.alloc hb.size _).trans (hb4.mono (by have := hb.size; simp; omega))
            clear hc hf hb4 hb
            simp at q0 q1 q2
            go_wp2_with (first | (go_at_call 11; refine (C1 _).mono ?_; rintro e w2 ⟨rfl, hw2⟩; subst hw2) | (go_at_call 12; refine (C2 _).mono ?_; rintro e w2 ⟨rfl, hw2⟩; subst hw2) | (go_at_call 13; refine (C3 _).mono ?_; rintro e w2 ⟨rfl, hw2⟩; subst hw2) | (go_at_call 15; refine (C4 _).mono ?_; rintro e w2 ⟨rfl, hw2⟩; subst hw2))
            go_ret
            exact ⟨rfl, HB.out.alloc HB.out.size _⟩
        · skip
          have gn' : n.toList.isEmpty = true := by simpa using gn
          go_enter Try.func5, Try.ntmps5
          go_wp2_with fail
          refine HZ.mono ?_
          rintro e w1 ⟨⟨r, rfl⟩, hw1⟩
          subst hw1
          clear HZ
          cases r with
          | false =>
            go_wp2_with fail
            go_ret
            exact ⟨rfl, Below.refl _ _⟩
          | true =>
            go_wp2_with (first | (go_at_call 11; refine (C1 _).mono ?_; rintro e w2 ⟨rfl, hw2⟩; subst hw2) | (go_at_call 12; refine (C2 _).mono ?_; rintro e w2 ⟨rfl, hw2⟩; subst hw2) | (go_at_call 13; refine (C3 _).mono ?_; rintro e w2 ⟨rfl, hw2⟩; subst hw2) | (go_at_call 15; refine (C4 _).mono ?_; rintro e w2 ⟨rfl, hw2⟩; subst hw2))
            go_ret
            exact ⟨rfl, Below.refl _ _⟩
      · skip
        go_enter Try.func5, Try.ntmps5
        go_wp2_with fail
        refine HZ.mono ?_
        rintro e w1 ⟨⟨r, rfl⟩, hw1⟩
        subst hw1
        clear HZ
        cases r with
        | false =>
          go_wp2_with fail
          go_ret
          exact ⟨rfl, Below.refl _ _⟩
        | true =>
          go_wp2_with (first | (go_at_call 11; refine (C1 _).mono ?_; rintro e w2 ⟨rfl, hw2⟩; subst hw2) | (go_at_call 12; refine (C2 _).mono ?_; rintro e w2 ⟨rfl, hw2⟩; subst hw2) | (go_at_call 13; refine (C3 _).mono ?_; rintro e w2 ⟨rfl, hw2⟩; subst hw2) | (go_at_call 15; refine (C4 _).mono ?_; rintro e w2 ⟨rfl, hw2⟩; subst hw2))
          go_ret
          exact ⟨rfl, Below.refl _ _⟩
    · skip
      go_enter Try.func5, Try.ntmps5
      go_wp2_with fail
      refine HZ.mono ?_
      rintro e w1 ⟨⟨r, rfl⟩, hw1⟩
      subst hw1
      clear HZ
      cases r with
      | false =>
        go_wp2_with fail
        go_ret
        exact ⟨rfl, Below.refl _ _⟩
      | true =>
        go_wp2_with (first | (go_at_call 11; refine (C1 _).mono ?_; rintro e w2 ⟨rfl, hw2⟩; subst hw2) | (go_at_call 12; refine (C2 _).mono ?_; rintro e w2 ⟨rfl, hw2⟩; subst hw2) | (go_at_call 13; refine (C3 _).mono ?_; rintro e w2 ⟨rfl, hw2⟩; subst hw2) | (go_at_call 15; refine (C4 _).mono ?_; rintro e w2 ⟨rfl, hw2⟩; subst hw2))
        go_ret
        exact ⟨rfl, Below.refl _ _⟩
  · skip
    go_enter Try.func5, Try.ntmps5
    go_wp2_with fail
    refine HZ.mono ?_
    rintro e w1 ⟨⟨r, rfl⟩, hw1⟩
    subst hw1
    clear HZ
    cases r with
    | false =>
      go_wp2_with fail
      go_ret
      exact ⟨rfl, Below.refl _ _⟩
    | true =>
      go_wp2_with (first | (go_at_call 11; refine (C1 _).mono ?_; rintro e w2 ⟨rfl, hw2⟩; subst hw2) | (go_at_call 12; refine (C2 _).mono ?_; rintro e w2 ⟨rfl, hw2⟩; subst hw2) | (go_at_call 13; refine (C3 _).mono ?_; rintro e w2 ⟨rfl, hw2⟩; subst hw2) | (go_at_call 15; refine (C4 _).mono ?_; rintro e w2 ⟨rfl, hw2⟩; subst hw2))
      go_ret
      exact ⟨rfl, Below.refl _ _⟩

end Go.Proofs.Qxb6000823a
