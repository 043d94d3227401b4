/-
  THE LIBRARY's CONTRACTS IN THE WORDS OF LISTS, and the small functions of the law's own text.
-/
import Derived.Test.Qxb6000823aRows
import Derived.Test.Qxb6000823aShelf
import Derived.Lib.IndexLaws
import Derived.Lib.CutLaws
import Derived.WalkKit
import Derived.WalkSpells
import Derived.WalkLawsBesides
namespace Go.Proofs.Qxb6000823a
open Go.RowKit

/-- A string by its bytes. -/
def bs (l : List UInt8) : ByteArray := ⟨l.toArray⟩
theorem bs_list (l : List UInt8) : (bs l).data.toList = l := by simp [bs]
theorem list_bs (s : ByteArray) : bs s.data.toList = s := by
  apply ByteArray.ext
  simp [bs]
theorem eq_bs {s : ByteArray} {l : List UInt8} (h : s.data.toList = l) : s = bs l := by rw [← h, list_bs]
theorem size_list (s : ByteArray) : s.size = s.data.toList.length := Lib.size_eq s

theorem cutPrefix_hit (s p : ByteArray) (r : List UInt8) (w : World) (h : s.data.toList = p.data.toList ++ r) :
    Calls Try.prog 23 #[.string s, .string p] w fun e w' => e = .returned (.tuple #[.string (bs r), .bool true]) ∧ w' = w := by
  refine (Try.strings_CutPrefix s p w).mono ?_
  rintro e w' ⟨rfl, rfl⟩
  have hp : Lib.hasPrefix s.data.toList p.data.toList = true := by unfold Lib.hasPrefix; rw [h]; simp
  have ht : Lib.trimPrefix s.data.toList p.data.toList = r := by unfold Lib.trimPrefix; rw [if_pos hp, h]; simp
  rw [hp, ht]
  exact ⟨rfl, rfl⟩

theorem cutPrefix_miss (s p : ByteArray) (w : World) (h : Lib.hasPrefix s.data.toList p.data.toList = false) :
    Calls Try.prog 23 #[.string s, .string p] w fun e w' => e = .returned (.tuple #[.string s, .bool false]) ∧ w' = w := by
  refine (Try.strings_CutPrefix s p w).mono ?_
  rintro e w' ⟨rfl, rfl⟩
  have ht : Lib.trimPrefix s.data.toList p.data.toList = s.data.toList := by unfold Lib.trimPrefix; rw [if_neg (by rw [h]; simp)]
  rw [h, ht]
  exact ⟨by rw [← show bs s.data.toList = ⟨s.data.toList.toArray⟩ from rfl, list_bs], rfl⟩

theorem cutSuffix_hit (s p : ByteArray) (r : List UInt8) (w : World) (hs : s.size ≤ 9223372036854775807) (h : s.data.toList = r ++ p.data.toList) :
    Calls Try.prog 25 #[.string s, .string p] w fun e w' => e = .returned (.tuple #[.string (bs r), .bool true]) ∧ w' = w := by
  refine (Try.strings_CutSuffix s p w hs).mono ?_
  rintro e w' ⟨rfl, rfl⟩
  have hp : Lib.hasSuffix s.data.toList p.data.toList = true := by unfold Lib.hasSuffix; rw [h]; simp
  have ht : Lib.trimSuffix s.data.toList p.data.toList = r := by unfold Lib.trimSuffix; rw [if_pos hp, h]; simp
  rw [hp, ht]
  exact ⟨rfl, rfl⟩

theorem cut_hit (s p : ByteArray) (a b : List UInt8) (m : Int) (w : World) (hs : s.size < 4294967281) (hm : w.cell? ⟨0, 0, none⟩ = some (.int .i64 m)) (h : s.data.toList = a ++ (p.data.toList ++ b)) (hno : Lib.NoOcc s.data.toList p.data.toList a.length) :
    Calls Try.prog 24 #[.string s, .string p] w fun e w' => e = .returned (.tuple #[.string (bs a), .string (bs b), .bool true]) ∧ ∃ n, w' = w.drewN n := by
  refine (Try.strings_Cut s p m w hs hm).mono ?_
  rintro e w' ⟨rfl, hw⟩
  refine ⟨?_, hw⟩
  have hi : Lib.index s.data.toList p.data.toList = (a.length : Nat) := Lib.index_hit hno (by rw [h]; simp) (by unfold Lib.occAt; rw [h]; simp)
  have e : Lib.cut s.data.toList p.data.toList = (a, b, true) := by
    unfold Lib.cut
    rw [hi, if_pos (by omega), h]
    simp only [Int.toNat_natCast]
    rw [List.take_left, List.drop_append]
    simp
  rw [e]
  rfl

theorem cut_miss (s p : ByteArray) (m : Int) (w : World) (hs : s.size < 4294967281) (hm : w.cell? ⟨0, 0, none⟩ = some (.int .i64 m)) (h : Lib.index s.data.toList p.data.toList = -1) :
    Calls Try.prog 24 #[.string s, .string p] w fun e w' => e = .returned (.tuple #[.string s, .string ⟨#[]⟩, .bool false]) ∧ ∃ n, w' = w.drewN n := by
  refine (Try.strings_Cut s p m w hs hm).mono ?_
  rintro e w' ⟨rfl, hw⟩
  refine ⟨?_, hw⟩
  have e : Lib.cut s.data.toList p.data.toList = (s.data.toList, [], false) := by
    unfold Lib.cut
    rw [h, if_neg (by omega)]
  rw [e]

/-! The same, the pieces told as strings. -/
theorem cutPrefix_at (s p R : ByteArray) (w : World) (h : s.data.toList = p.data.toList ++ R.data.toList) :
    Calls Try.prog 23 #[.string s, .string p] w fun e w' => e = .returned (.tuple #[.string R, .bool true]) ∧ w' = w := by
  have := cutPrefix_hit s p R.data.toList w h
  rwa [list_bs] at this
theorem cutSuffix_at (s p R : ByteArray) (w : World) (hs : s.size ≤ 9223372036854775807) (h : s.data.toList = R.data.toList ++ p.data.toList) :
    Calls Try.prog 25 #[.string s, .string p] w fun e w' => e = .returned (.tuple #[.string R, .bool true]) ∧ w' = w := by
  have := cutSuffix_hit s p R.data.toList w hs h
  rwa [list_bs] at this
theorem cut_at (s p A B : ByteArray) (m : Int) (w : World) (hs : s.size < 4294967281) (hm : w.cell? ⟨0, 0, none⟩ = some (.int .i64 m)) (h : s.data.toList = A.data.toList ++ (p.data.toList ++ B.data.toList)) (hno : Lib.NoOcc s.data.toList p.data.toList A.data.toList.length) :
    Calls Try.prog 24 #[.string s, .string p] w fun e w' => e = .returned (.tuple #[.string A, .string B, .bool true]) ∧ ∃ n, w' = w.drewN n := by
  have := cut_hit s p A.data.toList B.data.toList m w hs hm h hno
  rwa [list_bs, list_bs] at this

theorem indexByte_is (s : ByteArray) (c v : Int) (w : World) (h : Lib.indexByte s.data.toList c.toNat.toUInt8 = v) :
    Calls Try.prog 22 #[.string s, .int .u8 c] w fun e w' => e = .returned (.int .i64 v) ∧ w' = w := by
  subst h
  exact Try.strings_IndexByte s c w

/-! ### The kinds' forms -/

set_option maxHeartbeats 400000 in
theorem iteration_no (k : ByteArray) (w : World) (h : Lib.hasPrefix k.data.toList [108, 111, 111, 112, 95, 105, 116, 101, 114, 46] = false) :
    Calls Try.prog 26 #[.string k] w fun e w' => e = .returned (.bool false) ∧ w' = w := by
  have hc := Try.strings_HasPrefix k ⟨#[108, 111, 111, 112, 95, 105, 116, 101, 114, 46]⟩ w
  rw [show (⟨#[108, 111, 111, 112, 95, 105, 116, 101, 114, 46]⟩ : ByteArray).data.toList = [108, 111, 111, 112, 95, 105, 116, 101, 114, 46] from rfl, h] at hc
  clear h
  go_enter Try.func26, Try.ntmps26
  go_wp2_with fail
  refine hc.mono ?_
  rintro e w' ⟨rfl, hw⟩
  subst hw
  clear hc
  go_wp2_with fail
  go_ret
  exact ⟨rfl, rfl⟩

set_option maxHeartbeats 400000 in
theorem iteration_yes (k : ByteArray) (w : World) (h : Lib.hasPrefix k.data.toList [108, 111, 111, 112, 95, 105, 116, 101, 114, 46] = true) :
    Calls Try.prog 26 #[.string k] w fun e w' => e = .returned (.bool true) ∧ w' = w := by
  have hc := Try.strings_HasPrefix k ⟨#[108, 111, 111, 112, 95, 105, 116, 101, 114, 46]⟩ w
  rw [show (⟨#[108, 111, 111, 112, 95, 105, 116, 101, 114, 46]⟩ : ByteArray).data.toList = [108, 111, 111, 112, 95, 105, 116, 101, 114, 46] from rfl, h] at hc
  clear h
  go_enter Try.func26, Try.ntmps26
  go_wp2_with fail
  refine hc.mono ?_
  rintro e w' ⟨rfl, hw⟩
  subst hw
  clear hc
  go_wp2_with fail
  go_ret
  exact ⟨rfl, rfl⟩

set_option maxHeartbeats 400000 in
/-- align, where the text does not open with the alias, or the kind reads no iteration: both as they came. -/
theorem align_same (k t : ByteArray) (w : World) (h : Lib.hasPrefix t.data.toList [105, 116, 101, 114, 97, 116, 111, 114, 46] = false ∨ Lib.hasPrefix k.data.toList [108, 111, 111, 112, 95, 105, 116, 101, 114, 46] = false) :
    Calls Try.prog 21 #[.string k, .string t] w fun e w' => e = .returned (.tuple #[.string k, .string t]) ∧ w' = w := by
  by_cases hp : Lib.hasPrefix t.data.toList [105, 116, 101, 114, 97, 116, 111, 114, 46] = false
  · have hc := cutPrefix_miss t ⟨#[105, 116, 101, 114, 97, 116, 111, 114, 46]⟩ w hp
    clear h hp
    go_enter Try.func21, Try.ntmps21
    go_wp2_with fail
    refine hc.mono ?_
    rintro e w' ⟨rfl, hw⟩
    subst hw
    clear hc
    go_wp2_with fail
    go_ret2
    exact ⟨rfl, rfl⟩
  · have hk := h.resolve_left hp
    have hp' : Lib.hasPrefix t.data.toList [105, 116, 101, 114, 97, 116, 111, 114, 46] = true := by simpa using hp
    obtain ⟨r, hr⟩ : ∃ r, t.data.toList = (⟨#[105, 116, 101, 114, 97, 116, 111, 114, 46]⟩ : ByteArray).data.toList ++ r := by
      unfold Lib.hasPrefix at hp'
      rw [List.isPrefixOf_iff_prefix] at hp'
      obtain ⟨r, hr⟩ := hp'
      exact ⟨r, hr.symm⟩
    have hc := cutPrefix_hit t ⟨#[105, 116, 101, 114, 97, 116, 111, 114, 46]⟩ r w hr
    have hi := fun wx => iteration_no k wx hk
    clear h hp hp' hr hk
    go_enter Try.func21, Try.ntmps21
    go_wp2_with fail
    refine hc.mono ?_
    rintro e w' ⟨rfl, hw⟩
    subst hw
    clear hc
    go_wp2_with fail
    refine (hi _).mono ?_
    rintro e w' ⟨rfl, hw⟩
    subst hw
    clear hi
    go_wp2_with fail
    go_ret2
    exact ⟨rfl, rfl⟩

set_option maxHeartbeats 400000 in
/-- align at the alias. -/
theorem align_alias (t : ByteArray) (r : List UInt8) (w : World) (h : t.data.toList = [105, 116, 101, 114, 97, 116, 111, 114, 46] ++ r) :
    Calls Try.prog 21 #[.string ⟨#[108, 111, 111, 112, 95, 105, 116, 101, 114, 46, 60, 110, 97, 109, 101, 62]⟩, .string t] w fun e w' => e = .returned (.tuple #[.string ⟨#[60, 110, 97, 109, 101, 62]⟩, .string (bs r)]) ∧ w' = w := by
  have hc := cutPrefix_hit t ⟨#[105, 116, 101, 114, 97, 116, 111, 114, 46]⟩ r w h
  have hi := fun wx => iteration_yes ⟨#[108, 111, 111, 112, 95, 105, 116, 101, 114, 46, 60, 110, 97, 109, 101, 62]⟩ wx (by decide)
  have hx : (⟨#[108, 111, 111, 112, 95, 105, 116, 101, 114, 46, 60, 110, 97, 109, 101, 62]⟩ : ByteArray).extract 10 16 = ⟨#[60, 110, 97, 109, 101, 62]⟩ := by decide
  clear h
  go_enter Try.func21, Try.ntmps21
  go_wp2_with fail
  refine hc.mono ?_
  rintro e w' ⟨rfl, hw⟩
  subst hw
  clear hc
  go_wp2_with fail
  refine (hi _).mono ?_
  rintro e w' ⟨rfl, hw⟩
  subst hw
  clear hi
  go_wp2_with fail
  go_ret2
  exact ⟨rfl, rfl⟩

/-! ### The law's own small functions, by the class c of sel (mod 5) -/
def hasTask (c : Int) : Bool := c == 0 || c == 3 || c == 4
def hasName (c : Int) : Bool := c != 3
def nextOf (c : Int) : ByteArray := if c = 0 then ⟨#[46, 111, 117, 116, 112, 117, 116, 115, 46, 112, 97, 114, 97, 109, 101, 116, 101, 114, 115, 46]⟩ else if c = 4 then ⟨#[58]⟩ else ⟨#[]⟩
def formOf (c : Int) : ByteArray := if c = 0 then ⟨#[116, 97, 115, 107, 115, 46, 60, 116, 97, 115, 107, 62, 46, 111, 117, 116, 112, 117, 116, 115, 46, 112, 97, 114, 97, 109, 101, 116, 101, 114, 115, 46, 60, 110, 97, 109, 101, 62]⟩ else if c = 1 then ⟨#[105, 110, 112, 117, 116, 115, 46, 112, 97, 114, 97, 109, 101, 116, 101, 114, 115, 46, 60, 110, 97, 109, 101, 62]⟩ else if c = 2 then ⟨#[108, 111, 111, 112, 95, 105, 116, 101, 114, 46, 60, 110, 97, 109, 101, 62]⟩ else if c = 3 then ⟨#[116, 97, 115, 107, 115, 46, 60, 116, 97, 115, 107, 62, 46, 112, 104, 97, 115, 101]⟩ else ⟨#[60, 116, 97, 115, 107, 62, 58, 60, 110, 97, 109, 101, 62]⟩

set_option maxHeartbeats 400000 in
theorem formHasTask_any (x c : Int) (w : World) (h0 : 0 ≤ x) (h1 : x ≤ 255) (hx : x % 5 = c) (hc : c = 0 ∨ c = 1 ∨ c = 2 ∨ c = 3 ∨ c = 4) :
    Calls Try.prog 11 #[.int .u8 x] w fun e w' => e = .returned (.bool (hasTask c)) ∧ w' = w := by
  rcases hc with rfl | rfl | rfl | rfl | rfl
  all_goals
    go_enter Try.func11, Try.ntmps11
    go_wp2
    go_ret
    exact ⟨rfl, rfl⟩

set_option maxHeartbeats 400000 in
theorem formHasName_any (x c : Int) (w : World) (h0 : 0 ≤ x) (h1 : x ≤ 255) (hx : x % 5 = c) (hc : c = 0 ∨ c = 1 ∨ c = 2 ∨ c = 3 ∨ c = 4) :
    Calls Try.prog 12 #[.int .u8 x] w fun e w' => e = .returned (.bool (hasName c)) ∧ w' = w := by
  rcases hc with rfl | rfl | rfl | rfl | rfl
  all_goals
    go_enter Try.func12, Try.ntmps12
    go_wp2
    go_ret
    exact ⟨rfl, rfl⟩

set_option maxHeartbeats 400000 in
theorem taskNext_any (x c : Int) (w : World) (h0 : 0 ≤ x) (h1 : x ≤ 255) (hx : x % 5 = c) (hc : c = 0 ∨ c = 1 ∨ c = 2 ∨ c = 3 ∨ c = 4) :
    Calls Try.prog 13 #[.int .u8 x] w fun e w' => e = .returned (.string (nextOf c)) ∧ w' = w := by
  rcases hc with rfl | rfl | rfl | rfl | rfl
  all_goals
    go_enter Try.func13, Try.ntmps13
    go_wp2
    go_ret
    exact ⟨rfl, rfl⟩

set_option maxHeartbeats 400000 in
theorem formOf_any (x c : Int) (w : World) (h0 : 0 ≤ x) (h1 : x ≤ 255) (hx : x % 5 = c) (hc : c = 0 ∨ c = 1 ∨ c = 2 ∨ c = 3 ∨ c = 4) :
    Calls Try.prog 15 #[.int .u8 x] w fun e w' => e = .returned (.string (formOf c)) ∧ w' = w := by
  rcases hc with rfl | rfl | rfl | rfl | rfl
  all_goals
    go_enter Try.func15, Try.ntmps15
    go_wp2
    go_ret
    exact ⟨rfl, rfl⟩

theorem app_list (a b : ByteArray) : (a ++ b).data.toList = a.data.toList ++ b.data.toList := by
  show (ByteArray.append a b).data.toList = _
  simp

/-- What renderRef writes. -/
def render (c : Int) (t n : List UInt8) : List UInt8 :=
  if c = 0 then [116, 97, 115, 107, 115, 46] ++ t ++ [46, 111, 117, 116, 112, 117, 116, 115, 46, 112, 97, 114, 97, 109, 101, 116, 101, 114, 115, 46] ++ n
  else if c = 1 then [105, 110, 112, 117, 116, 115, 46, 112, 97, 114, 97, 109, 101, 116, 101, 114, 115, 46] ++ n else if c = 2 then [108, 111, 111, 112, 95, 105, 116, 101, 114, 46] ++ n else if c = 3 then [116, 97, 115, 107, 115, 46] ++ t ++ [46, 112, 104, 97, 115, 101] else t ++ [58] ++ n

set_option maxHeartbeats 400000 in
theorem renderRef_any (x c : Int) (t n : ByteArray) (w : World) (h0 : 0 ≤ x) (h1 : x ≤ 255) (hx : x % 5 = c) (hc : c = 0 ∨ c = 1 ∨ c = 2 ∨ c = 3 ∨ c = 4) (ht : t.size ≤ 1048576) (hn : n.size ≤ 1048576) :
    Calls Try.prog 17 #[.int .u8 x, .string t, .string n] w fun e w' => (∃ T : ByteArray, e = .returned (.string T) ∧ T.data.toList = render c t.data.toList n.data.toList) ∧ w' = w := by
  rcases hc with rfl | rfl | rfl | rfl | rfl
  all_goals
    go_enter Try.func17, Try.ntmps17
    go_wp2
    go_ret
    refine ⟨⟨_, rfl, ?_⟩, rfl⟩
    simp [render]

end Go.Proofs.Qxb6000823a
