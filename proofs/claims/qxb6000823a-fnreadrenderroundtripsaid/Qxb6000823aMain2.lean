/-
  THE WALK of FnReadRenderRoundTrip, class by class.
-/
import Derived.Test.Qxb6000823aMain
namespace Go.Proofs.Qxb6000823a
open Go.RowKit

set_option maxRecDepth 100000 in
set_option maxHeartbeats 2000000 in
theorem main0 (x : Int) (t n : ByteArray) (m : Int) (w : World) (h0 : 0 ≤ x) (h1 : x ≤ 255) (hx : x % 5 = 0) (hst : t.size ≤ 9223372036854775807) (hsn : n.size ≤ 9223372036854775807) (hm : w.cell? ⟨0, 0, none⟩ = some (.int .i64 m)) :
    Calls Try.prog 5 #[.int .u8 x, .string t, .string n] w fun e w' => e = .returned (.bool true) ∧ Below w.heap.size w w' := by
  have HZ := zzBytes_any x t n w hst hsn
  have C1 := fun wx => formHasTask_any x 0 wx h0 h1 hx (by decide)
  have C2 := fun wx => formHasName_any x 0 wx h0 h1 hx (by decide)
  have C3 := fun wx => taskNext_any x 0 wx h0 h1 hx (by decide)
  have C4 := fun wx => formOf_any x 0 wx h0 h1 hx (by decide)
  rw [show hasTask 0 = true from rfl] at C1
  rw [show hasName 0 = true from rfl] at C2
  rw [show nextOf 0 = ⟨#[46, 111, 117, 116, 112, 117, 116, 115, 46, 112, 97, 114, 97, 109, 101, 116, 101, 114, 115, 46]⟩ from rfl] at C3
  rw [show formOf 0 = ⟨#[116, 97, 115, 107, 115, 46, 60, 116, 97, 115, 107, 62, 46, 111, 117, 116, 112, 117, 116, 115, 46, 112, 97, 114, 97, 109, 101, 116, 101, 114, 115, 46, 60, 110, 97, 109, 101, 62]⟩ from rfl] at C4
  by_cases g1 : t.size ≤ 1048576
  · skip
    by_cases g2 : n.size ≤ 1048576
    · skip
      by_cases g3 : t.size + n.size ≤ 1048576
      · skip
        by_cases gt : t.toList.isEmpty = false
        · skip
          by_cases gn : n.toList.isEmpty = false
          · skip
            go_enter Try.func5, Try.ntmps5
            go_wp2_with fail
            refine HZ.mono ?_
            rintro e w1 ⟨⟨r, rfl⟩, hw1⟩
            subst hw1
            clear HZ
            cases r with
            | false =>
              go_wp2_with fail
              go_ret
              exact ⟨rfl, Below.refl _ _⟩
            | true =>
              go_wp2_with (first | (go_at_call 11; refine (C1 _).mono ?_; rintro e w2 ⟨rfl, hw2⟩; subst hw2) | (go_at_call 12; refine (C2 _).mono ?_; rintro e w2 ⟨rfl, hw2⟩; subst hw2) | (go_at_call 13; refine (C3 _).mono ?_; rintro e w2 ⟨rfl, hw2⟩; subst hw2) | (go_at_call 15; refine (C4 _).mono ?_; rintro e w2 ⟨rfl, hw2⟩; subst hw2))
              refine (indexOf_any _ _ _ ?s1 ?s2).mono ?_
              case s1 => rw [ByteArray.size_append]; have : (⟨#[46, 111, 117, 116, 112, 117, 116, 115, 46, 112, 97, 114, 97, 109, 101, 116, 101, 114, 115, 46]⟩ : ByteArray).size = 20 := rfl; omega
              case s2 => decide
              rintro e w2 ⟨hfa, hw2⟩
              subst hw2
              obtain ⟨r2, he, hr⟩ := hfa
              rw [he]
              clear he
              by_cases hr2 : r2 = t.size
              · have hno0 := hr t.size hr2
                have HNO : Hid (Lib.NoOcc (t.data.toList ++ ([46, 111, 117, 116, 112, 117, 116, 115, 46, 112, 97, 114, 97, 109, 101, 116, 101, 114, 115, 46] ++ n.data.toList)) [46, 111, 117, 116, 112, 117, 116, 115, 46, 112, 97, 114, 97, 109, 101, 116, 101, 114, 115, 46] t.data.toList.length) := by
                  rw [size_list] at hno0
                  refine noOcc_more ?_
                  rw [app_list] at hno0
                  exact hno0
                rw [hr2]
                clear hr hno0 hr2
                go_wp2_with (first | (go_at_call 11; refine (C1 _).mono ?_; rintro e w2 ⟨rfl, hw2⟩; subst hw2) | (go_at_call 12; refine (C2 _).mono ?_; rintro e w2 ⟨rfl, hw2⟩; subst hw2) | (go_at_call 13; refine (C3 _).mono ?_; rintro e w2 ⟨rfl, hw2⟩; subst hw2) | (go_at_call 15; refine (C4 _).mono ?_; rintro e w2 ⟨rfl, hw2⟩; subst hw2))
                refine (renderRef_any x 0 t n _ h0 h1 hx (by decide) g1 g2).mono ?_
                rintro e w2 ⟨⟨T, rfl, hT⟩, hw2⟩
                subst hw2
                have hT2 : T.data.toList = [116, 97, 115, 107, 115, 46] ++ (t.data.toList ++ ([46, 111, 117, 116, 112, 117, 116, 115, 46, 112, 97, 114, 97, 109, 101, 116, 101, 114, 115, 46] ++ n.data.toList)) := by rw [hT]; simp [render]
                have HR := zzRead_of ⟨#[116, 97, 115, 107, 115, 46, 60, 116, 97, 115, 107, 62, 46, 111, 117, 116, 112, 117, 116, 115, 46, 112, 97, 114, 97, 109, 101, 116, 101, 114, 115, 46, 60, 110, 97, 109, 101, 62]⟩ T ⟨#[116, 97, 115, 107, 115, 46, 60, 116, 97, 115, 107, 62, 46, 111, 117, 116, 112, 117, 116, 115, 46, 112, 97, 114, 97, 109, 101, 116, 101, 114, 115, 46, 60, 110, 97, 109, 101, 62]⟩ t n m w2 hm (fun wx hmx => read0 T t n m wx hT2 g1 gt g2 gn HNO.out hmx)
                clear hT hT2
                go_wp2_with (first | (go_at_call 11; refine (C1 _).mono ?_; rintro e w2 ⟨rfl, hw2⟩; subst hw2) | (go_at_call 12; refine (C2 _).mono ?_; rintro e w2 ⟨rfl, hw2⟩; subst hw2) | (go_at_call 13; refine (C3 _).mono ?_; rintro e w2 ⟨rfl, hw2⟩; subst hw2) | (go_at_call 15; refine (C4 _).mono ?_; rintro e w2 ⟨rfl, hw2⟩; subst hw2))
                refine HR.mono ?_
                rintro e w3 ⟨rfl, hb⟩
                clear HR
                go_wp2_with (first | (go_at_call 11; refine (C1 _).mono ?_; rintro e w2 ⟨rfl, hw2⟩; subst hw2) | (go_at_call 12; refine (C2 _).mono ?_; rintro e w2 ⟨rfl, hw2⟩; subst hw2) | (go_at_call 13; refine (C3 _).mono ?_; rintro e w2 ⟨rfl, hw2⟩; subst hw2) | (go_at_call 15; refine (C4 _).mono ?_; rintro e w2 ⟨rfl, hw2⟩; subst hw2))
                go_ret
                exact ⟨rfl, hb.alloc hb.size _⟩
              · have hr3 : (r2 != (t.size : Int)) = true := by simpa using hr2
                clear hr hr2
                go_wp2_with (first | (go_at_call 11; refine (C1 _).mono ?_; rintro e w2 ⟨rfl, hw2⟩; subst hw2) | (go_at_call 12; refine (C2 _).mono ?_; rintro e w2 ⟨rfl, hw2⟩; subst hw2) | (go_at_call 13; refine (C3 _).mono ?_; rintro e w2 ⟨rfl, hw2⟩; subst hw2) | (go_at_call 15; refine (C4 _).mono ?_; rintro e w2 ⟨rfl, hw2⟩; subst hw2))
                go_ret
                exact ⟨rfl, Below.refl _ _⟩
          · skip
            have gn' : n.toList.isEmpty = true := by simpa using gn
            go_enter Try.func5, Try.ntmps5
            go_wp2_with fail
            refine HZ.mono ?_
            rintro e w1 ⟨⟨r, rfl⟩, hw1⟩
            subst hw1
            clear HZ
            cases r with
            | false =>
              go_wp2_with fail
              go_ret
              exact ⟨rfl, Below.refl _ _⟩
            | true =>
              go_wp2_with (first | (go_at_call 11; refine (C1 _).mono ?_; rintro e w2 ⟨rfl, hw2⟩; subst hw2) | (go_at_call 12; refine (C2 _).mono ?_; rintro e w2 ⟨rfl, hw2⟩; subst hw2) | (go_at_call 13; refine (C3 _).mono ?_; rintro e w2 ⟨rfl, hw2⟩; subst hw2) | (go_at_call 15; refine (C4 _).mono ?_; rintro e w2 ⟨rfl, hw2⟩; subst hw2))
              go_ret
              exact ⟨rfl, Below.refl _ _⟩
        · skip
          have gt' : t.toList.isEmpty = true := by simpa using gt
          go_enter Try.func5, Try.ntmps5
          go_wp2_with fail
          refine HZ.mono ?_
          rintro e w1 ⟨⟨r, rfl⟩, hw1⟩
          subst hw1
          clear HZ
          cases r with
          | false =>
            go_wp2_with fail
            go_ret
            exact ⟨rfl, Below.refl _ _⟩
          | true =>
            go_wp2_with (first | (go_at_call 11; refine (C1 _).mono ?_; rintro e w2 ⟨rfl, hw2⟩; subst hw2) | (go_at_call 12; refine (C2 _).mono ?_; rintro e w2 ⟨rfl, hw2⟩; subst hw2) | (go_at_call 13; refine (C3 _).mono ?_; rintro e w2 ⟨rfl, hw2⟩; subst hw2) | (go_at_call 15; refine (C4 _).mono ?_; rintro e w2 ⟨rfl, hw2⟩; subst hw2))
            go_ret
            exact ⟨rfl, Below.refl _ _⟩
      · skip
        go_enter Try.func5, Try.ntmps5
        go_wp2_with fail
        refine HZ.mono ?_
        rintro e w1 ⟨⟨r, rfl⟩, hw1⟩
        subst hw1
        clear HZ
        cases r with
        | false =>
          go_wp2_with fail
          go_ret
          exact ⟨rfl, Below.refl _ _⟩
        | true =>
          go_wp2_with (first | (go_at_call 11; refine (C1 _).mono ?_; rintro e w2 ⟨rfl, hw2⟩; subst hw2) | (go_at_call 12; refine (C2 _).mono ?_; rintro e w2 ⟨rfl, hw2⟩; subst hw2) | (go_at_call 13; refine (C3 _).mono ?_; rintro e w2 ⟨rfl, hw2⟩; subst hw2) | (go_at_call 15; refine (C4 _).mono ?_; rintro e w2 ⟨rfl, hw2⟩; subst hw2))
          go_ret
          exact ⟨rfl, Below.refl _ _⟩
    · skip
      go_enter Try.func5, Try.ntmps5
      go_wp2_with fail
      refine HZ.mono ?_
      rintro e w1 ⟨⟨r, rfl⟩, hw1⟩
      subst hw1
      clear HZ
      cases r with
      | false =>
        go_wp2_with fail
        go_ret
        exact ⟨rfl, Below.refl _ _⟩
      | true =>
        go_wp2_with (first | (go_at_call 11; refine (C1 _).mono ?_; rintro e w2 ⟨rfl, hw2⟩; subst hw2) | (go_at_call 12; refine (C2 _).mono ?_; rintro e w2 ⟨rfl, hw2⟩; subst hw2) | (go_at_call 13; refine (C3 _).mono ?_; rintro e w2 ⟨rfl, hw2⟩; subst hw2) | (go_at_call 15; refine (C4 _).mono ?_; rintro e w2 ⟨rfl, hw2⟩; subst hw2))
        go_ret
        exact ⟨rfl, Below.refl _ _⟩
  · skip
    go_enter Try.func5, Try.ntmps5
    go_wp2_with fail
    refine HZ.mono ?_
    rintro e w1 ⟨⟨r, rfl⟩, hw1⟩
    subst hw1
    clear HZ
    cases r with
    | false =>
      go_wp2_with fail
      go_ret
      exact ⟨rfl, Below.refl _ _⟩
    | true =>
      go_wp2_with (first | (go_at_call 11; refine (C1 _).mono ?_; rintro e w2 ⟨rfl, hw2⟩; subst hw2) | (go_at_call 12; refine (C2 _).mono ?_; rintro e w2 ⟨rfl, hw2⟩; subst hw2) | (go_at_call 13; refine (C3 _).mono ?_; rintro e w2 ⟨rfl, hw2⟩; subst hw2) | (go_at_call 15; refine (C4 _).mono ?_; rintro e w2 ⟨rfl, hw2⟩; subst hw2))
      go_ret
      exact ⟨rfl, Below.refl _ _⟩

set_option maxRecDepth 100000 in
set_option maxHeartbeats 2000000 in
theorem main4 (x : Int) (t n : ByteArray) (m : Int) (w : World) (h0 : 0 ≤ x) (h1 : x ≤ 255) (hx : x % 5 = 4) (hst : t.size ≤ 9223372036854775807) (hsn : n.size ≤ 9223372036854775807) (hm : w.cell? ⟨0, 0, none⟩ = some (.int .i64 m)) :
    Calls Try.prog 5 #[.int .u8 x, .string t, .string n] w fun e w' => e = .returned (.bool true) ∧ Below w.heap.size w w' := by
  have HZ := zzBytes_any x t n w hst hsn
  have C1 := fun wx => formHasTask_any x 4 wx h0 h1 hx (by decide)
  have C2 := fun wx => formHasName_any x 4 wx h0 h1 hx (by decide)
  have C3 := fun wx => taskNext_any x 4 wx h0 h1 hx (by decide)
  have C4 := fun wx => formOf_any x 4 wx h0 h1 hx (by decide)
  rw [show hasTask 4 = true from rfl] at C1
  rw [show hasName 4 = true from rfl] at C2
  rw [show nextOf 4 = ⟨#[58]⟩ from rfl] at C3
  rw [show formOf 4 = ⟨#[60, 116, 97, 115, 107, 62, 58, 60, 110, 97, 109, 101, 62]⟩ from rfl] at C4
  by_cases g1 : t.size ≤ 1048576
  · skip
    by_cases g2 : n.size ≤ 1048576
    · skip
      by_cases g3 : t.size + n.size ≤ 1048576
      · skip
        by_cases gt : t.toList.isEmpty = false
        · skip
          by_cases gn : n.toList.isEmpty = false
          · skip
            go_enter Try.func5, Try.ntmps5
            go_wp2_with fail
            refine HZ.mono ?_
            rintro e w1 ⟨⟨r, rfl⟩, hw1⟩
            subst hw1
            clear HZ
            cases r with
            | false =>
              go_wp2_with fail
              go_ret
              exact ⟨rfl, Below.refl _ _⟩
            | true =>
              go_wp2_with (first | (go_at_call 11; refine (C1 _).mono ?_; rintro e w2 ⟨rfl, hw2⟩; subst hw2) | (go_at_call 12; refine (C2 _).mono ?_; rintro e w2 ⟨rfl, hw2⟩; subst hw2) | (go_at_call 13; refine (C3 _).mono ?_; rintro e w2 ⟨rfl, hw2⟩; subst hw2) | (go_at_call 15; refine (C4 _).mono ?_; rintro e w2 ⟨rfl, hw2⟩; subst hw2))
              refine (indexOf_any _ _ _ ?s1 ?s2).mono ?_
              case s1 => rw [ByteArray.size_append]; have : (⟨#[58]⟩ : ByteArray).size = 1 := rfl; omega
              case s2 => decide
              rintro e w2 ⟨hfa, hw2⟩
              subst hw2
              obtain ⟨r2, he, hr⟩ := hfa
              rw [he]
              clear he
              by_cases hr2 : r2 = t.size
              · have hno0 := hr t.size hr2
                have HNO : Hid (Lib.NoOcc (t.data.toList ++ ([58] ++ n.data.toList)) [58] t.data.toList.length) := by
                  rw [size_list] at hno0
                  refine noOcc_more ?_
                  rw [app_list] at hno0
                  exact hno0
                rw [hr2]
                clear hr hno0 hr2
                go_wp2_with (first | (go_at_call 11; refine (C1 _).mono ?_; rintro e w2 ⟨rfl, hw2⟩; subst hw2) | (go_at_call 12; refine (C2 _).mono ?_; rintro e w2 ⟨rfl, hw2⟩; subst hw2) | (go_at_call 13; refine (C3 _).mono ?_; rintro e w2 ⟨rfl, hw2⟩; subst hw2) | (go_at_call 15; refine (C4 _).mono ?_; rintro e w2 ⟨rfl, hw2⟩; subst hw2))
                refine (renderRef_any x 4 t n _ h0 h1 hx (by decide) g1 g2).mono ?_
                rintro e w2 ⟨⟨T, rfl, hT⟩, hw2⟩
                subst hw2
                have hT2 : T.data.toList = t.data.toList ++ ([58] ++ n.data.toList) := by rw [hT]; simp [render]
                have HR := zzRead_of ⟨#[60, 116, 97, 115, 107, 62, 58, 60, 110, 97, 109, 101, 62]⟩ T ⟨#[60, 116, 97, 115, 107, 62, 58, 60, 110, 97, 109, 101, 62]⟩ t n m w2 hm (fun wx hmx => read4 T t n m wx hT2 g1 gt g2 gn HNO.out hmx)
                clear hT hT2
                go_wp2_with (first | (go_at_call 11; refine (C1 _).mono ?_; rintro e w2 ⟨rfl, hw2⟩; subst hw2) | (go_at_call 12; refine (C2 _).mono ?_; rintro e w2 ⟨rfl, hw2⟩; subst hw2) | (go_at_call 13; refine (C3 _).mono ?_; rintro e w2 ⟨rfl, hw2⟩; subst hw2) | (go_at_call 15; refine (C4 _).mono ?_; rintro e w2 ⟨rfl, hw2⟩; subst hw2))
                refine HR.mono ?_
                rintro e w3 ⟨rfl, hb⟩
                clear HR
                go_wp2_with (first | (go_at_call 11; refine (C1 _).mono ?_; rintro e w2 ⟨rfl, hw2⟩; subst hw2) | (go_at_call 12; refine (C2 _).mono ?_; rintro e w2 ⟨rfl, hw2⟩; subst hw2) | (go_at_call 13; refine (C3 _).mono ?_; rintro e w2 ⟨rfl, hw2⟩; subst hw2) | (go_at_call 15; refine (C4 _).mono ?_; rintro e w2 ⟨rfl, hw2⟩; subst hw2))
                go_ret
                exact ⟨rfl, hb.alloc hb.size _⟩
              · have hr3 : (r2 != (t.size : Int)) = true := by simpa using hr2
                clear hr hr2
                go_wp2_with (first | (go_at_call 11; refine (C1 _).mono ?_; rintro e w2 ⟨rfl, hw2⟩; subst hw2) | (go_at_call 12; refine (C2 _).mono ?_; rintro e w2 ⟨rfl, hw2⟩; subst hw2) | (go_at_call 13; refine (C3 _).mono ?_; rintro e w2 ⟨rfl, hw2⟩; subst hw2) | (go_at_call 15; refine (C4 _).mono ?_; rintro e w2 ⟨rfl, hw2⟩; subst hw2))
                go_ret
                exact ⟨rfl, Below.refl _ _⟩
          · skip
            have gn' : n.toList.isEmpty = true := by simpa using gn
            go_enter Try.func5, Try.ntmps5
            go_wp2_with fail
            refine HZ.mono ?_
            rintro e w1 ⟨⟨r, rfl⟩, hw1⟩
            subst hw1
            clear HZ
            cases r with
            | false =>
              go_wp2_with fail
              go_ret
              exact ⟨rfl, Below.refl _ _⟩
            | true =>
              go_wp2_with (first | (go_at_call 11; refine (C1 _).mono ?_; rintro e w2 ⟨rfl, hw2⟩; subst hw2) | (go_at_call 12; refine (C2 _).mono ?_; rintro e w2 ⟨rfl, hw2⟩; subst hw2) | (go_at_call 13; refine (C3 _).mono ?_; rintro e w2 ⟨rfl, hw2⟩; subst hw2) | (go_at_call 15; refine (C4 _).mono ?_; rintro e w2 ⟨rfl, hw2⟩; subst hw2))
              go_ret
              exact ⟨rfl, Below.refl _ _⟩
        · skip
          have gt' : t.toList.isEmpty = true := by simpa using gt
          go_enter Try.func5, Try.ntmps5
          go_wp2_with fail
          refine HZ.mono ?_
          rintro e w1 ⟨⟨r, rfl⟩, hw1⟩
          subst hw1
          clear HZ
          cases r with
          | false =>
            go_wp2_with fail
            go_ret
            exact ⟨rfl, Below.refl _ _⟩
          | true =>
            go_wp2_with (first | (go_at_call 11; refine (C1 _).mono ?_; rintro e w2 ⟨rfl, hw2⟩; subst hw2) | (go_at_call 12; refine (C2 _).mono ?_; rintro e w2 ⟨rfl, hw2⟩; subst hw2) | (go_at_call 13; refine (C3 _).mono ?_; rintro e w2 ⟨rfl, hw2⟩; subst hw2) | (go_at_call 15; refine (C4 _).mono ?_; rintro e w2 ⟨rfl, hw2⟩; subst hw2))
            go_ret
            exact ⟨rfl, Below.refl _ _⟩
      · skip
        go_enter Try.func5, Try.ntmps5
        go_wp2_with fail
        refine HZ.mono ?_
        rintro e w1 ⟨⟨r, rfl⟩, hw1⟩
        subst hw1
        clear HZ
        cases r with
        | false =>
          go_wp2_with fail
          go_ret
          exact ⟨rfl, Below.refl _ _⟩
        | true =>
          go_wp2_with (first | (go_at_call 11; refine (C1 _).mono ?_; rintro e w2 ⟨rfl, hw2⟩; subst hw2) | (go_at_call 12; refine (C2 _).mono ?_; rintro e w2 ⟨rfl, hw2⟩; subst hw2) | (go_at_call 13; refine (C3 _).mono ?_; rintro e w2 ⟨rfl, hw2⟩; subst hw2) | (go_at_call 15; refine (C4 _).mono ?_; rintro e w2 ⟨rfl, hw2⟩; subst hw2))
          go_ret
          exact ⟨rfl, Below.refl _ _⟩
    · skip
      go_enter Try.func5, Try.ntmps5
      go_wp2_with fail
      refine HZ.mono ?_
      rintro e w1 ⟨⟨r, rfl⟩, hw1⟩
      subst hw1
      clear HZ
      cases r with
      | false =>
        go_wp2_with fail
        go_ret
        exact ⟨rfl, Below.refl _ _⟩
      | true =>
        go_wp2_with (first | (go_at_call 11; refine (C1 _).mono ?_; rintro e w2 ⟨rfl, hw2⟩; subst hw2) | (go_at_call 12; refine (C2 _).mono ?_; rintro e w2 ⟨rfl, hw2⟩; subst hw2) | (go_at_call 13; refine (C3 _).mono ?_; rintro e w2 ⟨rfl, hw2⟩; subst hw2) | (go_at_call 15; refine (C4 _).mono ?_; rintro e w2 ⟨rfl, hw2⟩; subst hw2))
        go_ret
        exact ⟨rfl, Below.refl _ _⟩
  · skip
    go_enter Try.func5, Try.ntmps5
    go_wp2_with fail
    refine HZ.mono ?_
    rintro e w1 ⟨⟨r, rfl⟩, hw1⟩
    subst hw1
    clear HZ
    cases r with
    | false =>
      go_wp2_with fail
      go_ret
      exact ⟨rfl, Below.refl _ _⟩
    | true =>
      go_wp2_with (first | (go_at_call 11; refine (C1 _).mono ?_; rintro e w2 ⟨rfl, hw2⟩; subst hw2) | (go_at_call 12; refine (C2 _).mono ?_; rintro e w2 ⟨rfl, hw2⟩; subst hw2) | (go_at_call 13; refine (C3 _).mono ?_; rintro e w2 ⟨rfl, hw2⟩; subst hw2) | (go_at_call 15; refine (C4 _).mono ?_; rintro e w2 ⟨rfl, hw2⟩; subst hw2))
      go_ret
      exact ⟨rfl, Below.refl _ _⟩

end Go.Proofs.Qxb6000823a
