/-
  THE WALKS of escLen, escapeString, isDelim, zzBytes.
-/
import Derived.Test.Qxb6000722aStr
import Derived.Maps.AppendAt
namespace Go.Proofs.Qxb6000722a
open Go.RowKit

/-- A string's bytes as numbers. -/
def bl (s : ByteArray) : List Int := s.data.toList.map fun c => (c.toNat : Int)
theorem bl_len (s : ByteArray) : (bl s).length = s.size := by simp [bl]
theorem bl_take (s : ByteArray) (k : Nat) (h : k < s.size) : (bl s).take (k + 1) = (bl s).take k ++ [((s[k]'h).toNat : Int)] := by
  rw [List.take_succ_eq_append_getElem (by rw [bl_len]; exact h)]
  simp [bl]
  rfl
theorem bl_all (s : ByteArray) : (bl s).take s.size = bl s := by
  rw [List.take_of_length_le (by rw [bl_len]; omega)]
theorem bl_bd (s : ByteArray) (i : Nat) : 0 ≤ (bl s).getD i 0 ∧ (bl s).getD i 0 ≤ 255 := by
  by_cases h : i < s.size
  · rw [List.getD_eq_getElem?_getD, List.getElem?_eq_getElem (by rw [bl_len]; exact h)]
    simp only [bl, List.getElem_map, Option.getD_some]
    have := (s.data.toList[i]'(by simpa using h)).toNat_lt
    omega
  · rw [List.getD_eq_getElem?_getD, List.getElem?_eq_none (by rw [bl_len]; omega)]
    simp

set_option maxHeartbeats 400000 in
theorem escLen_any (s : ByteArray) (w : World) (hs : s.size ≤ 1048576) :
    Calls Try.prog 23 #[.string s] w fun e w' => e = .returned (.int .i64 ((Plain.esc (bl s)).length : Nat)) ∧ w' = w := by
  go_enter Try.func23, Try.ntmps23
  go_wp2_with fail
  go_loop [3, 4] (fun t u => ∃ k n : Nat, k ≤ s.size ∧ n ≤ 2097152 ∧ t = .int .i64 n ∧ u = .int .i64 k ∧ Hid (n + k = s.size + (Plain.esc ((bl s).take k)).length)) (fun _ u => s.size - (intOf u).toNat)
  case atStart => exact ⟨0, s.size, Nat.zero_le _, by omega, rfl, rfl, by show _ = _; simp [Plain.esc]⟩
  case round =>
    obtain ⟨k, n, hk, hn, rfl, rfl, HR⟩ := hrel
    by_cases hlt : k < s.size
    · have hts := bl_take s k hlt
      have hl : ((bl s).take k).length = k := by rw [List.length_take, bl_len]; omega
      have hle := Plain.esc_le ((bl s).take k)
      rw [hl] at hle
      obtain ⟨x, hx⟩ : ∃ x : Int, x = ((s[k]'hlt).toNat : Int) := ⟨_, rfl⟩
      have hget : ∀ (h : k < s.size), ((s[k]'h).toNat : Int) = x := fun _ => hx.symm
      have hxb : 0 ≤ x ∧ x ≤ 255 := by have := (s[k]'hlt).toNat_lt; omega
      rw [← hx] at hts
      have HTS : Hid ((bl s).take (k + 1) = (bl s).take k ++ [x]) := hts
      have HLE : Hid ((Plain.esc ((bl s).take k)).length ≤ 2 * k) := hle.2
      clear hts hx hl hle
      by_cases hc : x = 92 ∨ x = 34
      · have HE : Hid ((Plain.esc ((bl s).take (k + 1))).length = (Plain.esc ((bl s).take k)).length + 2) := by
          show _ = _
          rw [HTS.out, Plain.esc_hit _ _ hc]; simp
        rcases hc with rfl | rfl
        all_goals
          go_wp2_with fail
          go_round
          case rel => exact ⟨k + 1, n + 1, by omega, by have := HR.out; have := HLE.out; omega, by go_num, by go_num, by show _ = _; rw [HE.out]; have := HR.out; omega⟩
          case measure => simp [intOf]; omega
      · have HE : Hid ((Plain.esc ((bl s).take (k + 1))).length = (Plain.esc ((bl s).take k)).length + 1) := by
          show _ = _
          rw [HTS.out, Plain.esc_miss _ _ hc]; simp
        have g1 : (x == 92) = false := by simp; omega
        have g2 : (x == 34) = false := by simp; omega
        clear hc
        go_wp2_with fail
        go_round
        case rel => exact ⟨k + 1, n, by omega, by omega, rfl, by go_num, by show _ = _; rw [HE.out]; have := HR.out; omega⟩
        case measure => simp [intOf]; omega
    · go_wp2_with fail
      go_ret
      have e : k = s.size := by omega
      refine ⟨ret_int ?_, rfl⟩
      have := HR.out
      rw [e, bl_all] at this
      omega

theorem info5 : (Try.prog.info? 5).map (fun i => (i.zero, i.size, i.bytes)) = some (some (.int .u8 0), 1, 1) := by kernel_rfl
theorem info3 : (Try.prog.info? 3).map (fun i => (i.zero, i.size, i.bytes)) = some (some (.int .i64 0), 1, 8) := by kernel_rfl

/-- The bytes of a slice of the call's own at the head of block g, capacity cap. -/
def Own (w : World) (base g cap : Nat) (xs : List Int) : Prop :=
  w.ownsRow base 5 1 (.slice (some ⟨g, 0, none⟩) xs.length cap) xs.length (xs.map (Value.int .u8))

/-- What an append of the cells ys leaves. -/
theorem Own.push {w1 : World} {base g cap n m : Nat} {xs ys : List Int} (hn : n = xs.length) (hm : m = ys.length)
    (h : w1.ownsRow base 5 1 (.slice (some ⟨g, 0, none⟩) (n + m) cap) (n + m) (xs.map (Value.int .u8) ++ ys.map (Value.int .u8))) : Own w1 base g cap (xs ++ ys) := by
  subst hn hm
  unfold Own
  rw [List.length_append, List.map_append]
  exact h

set_option maxHeartbeats 1000000 in
theorem escape_any (base g cap : Nat) (xs : List Int) (s : ByteArray) (w : World) (hs : s.size ≤ 1048576) (hown : Own w base g cap xs) (hfit : xs.length + (Plain.esc (bl s)).length ≤ cap) :
    Calls Try.prog 24 #[.slice (some ⟨g, 0, none⟩) xs.length cap, .string s] w fun e w' =>
      e = .returned (.slice (some ⟨g, 0, none⟩) (xs ++ Plain.esc (bl s)).length cap) ∧ Own w' base g cap (xs ++ Plain.esc (bl s)) ∧ w.grownBy w' (some g) := by
  obtain ⟨i0, hi, hz0, hz1, hz2⟩ := info_parts info5
  have HO : Hid (Own w base g cap xs) := hown
  have HF : Hid (xs.length + (Plain.esc (bl s)).length ≤ cap) := hfit
  clear hown hfit
  go_enter Try.func24, Try.ntmps24
  go_wp2_with fail
  go_loopw [0, 5] (fun v u wr => ∃ k : Nat, ∃ ys : List Int, k ≤ s.size ∧ u = .int .i64 k ∧ v = .slice (some ⟨g, 0, none⟩) ys.length cap ∧ Hid (ys = xs ++ Plain.esc ((bl s).take k)) ∧ Own wr base g cap ys ∧ w.grownBy wr (some g)) (fun _ u _ => s.size - (intOf u).toNat)
  case atStart => exact ⟨0, xs, Nat.zero_le _, rfl, rfl, by show _ = _; simp [Plain.esc], HO.out, World.grownBy.refl _ _⟩
  case round =>
    obtain ⟨k, ys, hk, rfl, rfl, HY, hown, hgr⟩ := hrel
    by_cases hlt : k < s.size
    · have hts := bl_take s k hlt
      obtain ⟨x, hx⟩ : ∃ x : Int, x = ((s[k]'hlt).toNat : Int) := ⟨_, rfl⟩
      have hget : ∀ (h : k < s.size), ((s[k]'h).toNat : Int) = x := fun _ => hx.symm
      rw [← hx] at hts
      have HTS : Hid ((bl s).take (k + 1) = (bl s).take k ++ [x]) := hts
      have hle : (Plain.esc ((bl s).take (k + 1))).length ≤ (Plain.esc (bl s)).length := by
        have := Plain.esc_append ((bl s).take (k + 1)) ((bl s).drop (k + 1))
        rw [List.take_append_drop] at this
        rw [this, List.length_append]; omega
      clear hts hx
      by_cases hc : x = 92 ∨ x = 34
      · have HE : Hid (xs ++ Plain.esc ((bl s).take (k + 1)) = ys ++ [92] ++ [x]) := by
          show _ = _
          rw [HTS.out, Plain.esc_hit _ _ hc, HY.out]; simp
        have hroom : ys.length + 1 + 1 ≤ cap := by
          have h1 := congrArg List.length HE.out
          have h2 := HF.out
          simp at h1
          omega
        clear hle
        have hl1 : (ys ++ [92]).length = ys.length + 1 := by simp
        rcases hc with rfl | rfl
        all_goals
          go_wp2_with (first
            | (at_builtin; refine wpList_append_fits _ rfl (.tmp 22) (.tmp 23) 22 rfl base 5 i0 1 Try.underlying22 hi hz1 g ys.length cap (ys.map (Value.int .u8)) rfl (hown.alloc _) ⟨wr.heap.size, 0, none⟩ 1 1 [.int .u8 92] rfl rfl (cell_one_new _ _ _) (by intro u hu; simp at hu; subst hu; rfl) (by omega) ?_; intro w1 hown1 hgr1)
            | (at_builtin; refine wpList_append_fits _ rfl (.tmp 25) (.tmp 27) 22 rfl base 5 i0 1 Try.underlying22 hi hz1 g (ys.length + 1) cap (ys.map (Value.int .u8) ++ [.int .u8 92]) rfl (hown1.alloc _) ⟨w1.heap.size, 0, none⟩ 1 1 [.int .u8 _] rfl rfl (cell_one_new _ _ _) (by intro u hu; simp at hu; subst hu; rfl) (by omega) ?_; intro w2 hown2 hgr2))
          have hg := ((hgr.trans (World.grownBy_alloc _ _ _)).trans hgr1).trans ((World.grownBy_alloc _ _ _).trans hgr2)
          have ho := Own.push (xs := ys ++ [92]) (ys := [_]) (n := ys.length + 1) (m := 1) (by simp) rfl (by rw [List.map_append]; exact hown2)
          clear hown hown1 hown2 hgr hgr1 hgr2
          go_roundw
          case rel => exact ⟨k + 1, _, by omega, by go_num, by rw [List.length_append, hl1]; rfl, HE.out.symm, ho, hg⟩
          case measure => simp [intOf]; omega
      · have HE : Hid (xs ++ Plain.esc ((bl s).take (k + 1)) = ys ++ [x]) := by
          show _ = _
          rw [HTS.out, Plain.esc_miss _ _ hc, HY.out]; simp
        have hroom : ys.length + 1 ≤ cap := by
          have h1 := congrArg List.length HE.out
          have h2 := HF.out
          simp at h1
          omega
        have e1 : (x == 92) = false := by simp; omega
        have e2 : (x == 34) = false := by simp; omega
        clear hle hc
        go_wp2_with (first
            | (at_builtin; refine wpList_append_fits _ rfl (.tmp 25) (.tmp 27) 22 rfl base 5 i0 1 Try.underlying22 hi hz1 g ys.length cap (ys.map (Value.int .u8)) rfl (hown.alloc _) ⟨wr.heap.size, 0, none⟩ 1 1 [.int .u8 _] rfl rfl (cell_one_new _ _ _) (by intro u hu; simp at hu; subst hu; rfl) (by omega) ?_; intro w2 hown2 hgr2))
        have hg := hgr.trans ((World.grownBy_alloc _ _ _).trans hgr2)
        have ho := Own.push (xs := ys) (ys := [x]) (n := ys.length) (m := 1) rfl rfl hown2
        clear hown hown2 hgr hgr2
        go_roundw
        case rel => exact ⟨k + 1, _, by omega, by go_num, by rw [List.length_append]; rfl, HE.out.symm, ho, hg⟩
        case measure => simp [intOf]; omega
    · have e : k = s.size := by omega
      have HYY : Hid (ys = xs ++ Plain.esc (bl s)) := by have := HY.out; rw [e, bl_all] at this; exact this
      clear e
      go_wp2_with fail
      go_ret
      have := HYY.out
      subst this
      exact ⟨rfl, hown, hgr⟩

theorem escape_at (base g cap n E : Nat) (xs : List Int) (s : ByteArray) (w : World) (hn : xs.length = n) (hE : (Plain.esc (bl s)).length = E) (hs : s.size ≤ 1048576) (hown : Own w base g cap xs) (hfit : n + E ≤ cap) :
    Calls Try.prog 24 #[.slice (some ⟨g, 0, none⟩) n cap, .string s] w fun e w' =>
      e = .returned (.slice (some ⟨g, 0, none⟩) (n + E) cap) ∧ Own w' base g cap (xs ++ Plain.esc (bl s)) ∧ w.grownBy w' (some g) := by
  subst hn hE
  have := escape_any base g cap xs s w hs hown hfit
  rwa [List.length_append] at this

/-- The cells of a block that has just been laid. -/
theorem cells_new (w : World) (xs : List Value) (t : TypeId) : ∀ j u, xs[j]? = some u → (w.alloc (.cells xs.toArray t)).cell? ((⟨w.heap.size, 0, none⟩ : Addr).add j) = some u := by
  intro j u hj
  have hadd : (⟨w.heap.size, 0, none⟩ : Addr).add j = ⟨w.heap.size, j, none⟩ := by unfold Addr.add; split <;> simp_all
  rw [hadd, cell_of_row _ w.heap.size j xs.toArray t (0, 0) (heap_alloc_new w _)]
  simpa using hj

set_option maxHeartbeats 400000 in
/-- isDelim. -/
theorem isDelim_any (x : Int) (w : World) (b : Bool) (hb' : b = true ↔ Plain.delim x) :
    Calls Try.prog 20 #[.int .u8 x] w fun e w' => e = .returned (.bool b) ∧ w' = w := by
  unfold Plain.delim at hb'
  by_cases h1 : x = 93
  · obtain rfl : b = true := hb'.2 (by omega)
    clear hb'
    subst h1
    go_enter Try.func20, Try.ntmps20
    go_wp2
    go_ret
    exact ⟨rfl, rfl⟩
  by_cases h2 : x = 125
  · obtain rfl : b = true := hb'.2 (by omega)
    clear hb'
    subst h2
    go_enter Try.func20, Try.ntmps20
    go_wp2
    go_ret
    exact ⟨rfl, rfl⟩
  by_cases h3 : x = 44
  · obtain rfl : b = true := hb'.2 (by omega)
    clear hb'
    subst h3
    go_enter Try.func20, Try.ntmps20
    go_wp2
    go_ret
    exact ⟨rfl, rfl⟩
  by_cases h4 : x = 58
  · obtain rfl : b = true := hb'.2 (by omega)
    clear hb'
    subst h4
    go_enter Try.func20, Try.ntmps20
    go_wp2
    go_ret
    exact ⟨rfl, rfl⟩
  by_cases h5 : x = 32
  · obtain rfl : b = true := hb'.2 (by omega)
    clear hb'
    subst h5
    go_enter Try.func20, Try.ntmps20
    go_wp2
    go_ret
    exact ⟨rfl, rfl⟩
  by_cases h6 : x = 9
  · obtain rfl : b = true := hb'.2 (by omega)
    clear hb'
    subst h6
    go_enter Try.func20, Try.ntmps20
    go_wp2
    go_ret
    exact ⟨rfl, rfl⟩
  by_cases h7 : x = 13
  · obtain rfl : b = true := hb'.2 (by omega)
    clear hb'
    subst h7
    go_enter Try.func20, Try.ntmps20
    go_wp2
    go_ret
    exact ⟨rfl, rfl⟩
  by_cases h8 : x = 10
  · obtain rfl : b = true := hb'.2 (by omega)
    clear hb'
    subst h8
    go_enter Try.func20, Try.ntmps20
    go_wp2
    go_ret
    exact ⟨rfl, rfl⟩
  obtain rfl : b = false := by
    cases b with
    | false => rfl
    | true => exact absurd (hb'.1 rfl) (by omega)
  clear hb'
  have e1 : (x == 93) = false := by simp [h1]
  have e2 : (x == 125) = false := by simp [h2]
  have e3 : (x == 44) = false := by simp [h3]
  have e4 : (x == 58) = false := by simp [h4]
  have e5 : (x == 32) = false := by simp [h5]
  have e6 : (x == 9) = false := by simp [h6]
  have e7 : (x == 13) = false := by simp [h7]
  have e8 : (x == 10) = false := by simp [h8]
  clear h1 h2 h3 h4 h5 h6 h7 h8
  go_enter Try.func20, Try.ntmps20
  go_wp2
  go_ret
  exact ⟨rfl, rfl⟩

/-- The words: where there is one, an address, and each cell holds its string. -/
def Wds (w : World) (a : Option Addr) (len : Nat) (wd : Nat → ByteArray) : Prop :=
  ∀ k, k < len → ∃ b o, a = some ⟨b, o, none⟩ ∧ b < w.heap.size ∧ ∀ i, i < len → w.cell? ⟨b, o + i, none⟩ = some (.string (wd i))

theorem Wds.later {w w' : World} {B : Nat} {a : Option Addr} {len : Nat} {wd : Nat → ByteArray} (h : Wds w a len wd) (hB : w.heap.size = B) (hb : Below B w w') : Wds w' a len wd := by
  intro k hk
  obtain ⟨b, o, h1, h2, h3⟩ := h k hk
  have := hb.size
  exact ⟨b, o, h1, by omega, fun i hi => (hb.cell (p := ⟨b, o + i, none⟩) (by show b < B; omega)).trans (h3 i hi)⟩

def SomeBool (e : Ending) : Prop := ∃ r : Bool, e = .returned (.bool r)
theorem SomeBool.no : SomeBool (.returned (.bool false)) := ⟨_, rfl⟩
theorem SomeBool.yes : SomeBool (.returned (.bool true)) := ⟨_, rfl⟩

set_option maxHeartbeats 1000000 in
theorem zzBytes_any (a : Option Addr) (len cap : Nat) (wd : Nat → ByteArray) (depth : Int) (a2 : Option Addr) (len2 cap2 : Nat) (w : World) (h : Wds w a len wd) (hl : len ≤ 9223372036854775807) (hl2 : len2 ≤ 9223372036854775807) (hsz : ∀ i, i < len → (wd i).size ≤ 9223372036854775807) :
    Calls Try.prog 22 #[.slice a len cap, .int .i64 depth, .slice a2 len2 cap2] w fun e w' => SomeBool e ∧ w' = w := by
  by_cases h1 : len ≤ 1048576
  · go_enter Try.func22, Try.ntmps22
    go_wp2_with fail
    go_loop [7, 8] (fun t u => ∃ x k : Nat, k ≤ len ∧ x ≤ 1048576 ∧ t = .int .i64 x ∧ u = .int .i64 k) (fun _ u => len - (intOf u).toNat)
    case atStart => exact ⟨len, 0, by omega, by omega, rfl, rfl⟩
    case round =>
      obtain ⟨x, k, hk, hx, rfl, rfl⟩ := hrel
      by_cases hlt : k < len
      · obtain ⟨b, o, rfl, _, hc⟩ := h k hlt
        have hcell := hc k hlt
        have hs := hsz k hlt
        obtain ⟨s, hs'⟩ : ∃ s, s = wd k := ⟨_, rfl⟩
        rw [← hs'] at hcell hs
        clear hs' hc h hsz
        by_cases hs1 : s.size ≤ 1048576
        · by_cases hs2 : x + s.size ≤ 1048576
          · go_wp2_with fail
            go_round
            case rel => exact ⟨x + s.size, k + 1, by omega, by omega, by go_num, by go_num⟩
            case measure => simp [intOf]; omega
          · go_wp2_with fail
            go_ret
            exact ⟨by first | exact SomeBool.no | exact SomeBool.yes, rfl⟩
        · go_wp2_with fail
          go_ret
          exact ⟨by first | exact SomeBool.no | exact SomeBool.yes, rfl⟩
      · clear h hsz
        by_cases h2 : len2 ≤ 1048576
        · by_cases h3 : x + len2 ≤ 1048576
          · go_wp2_with fail
            go_ret
            exact ⟨by first | exact SomeBool.no | exact SomeBool.yes, rfl⟩
          · go_wp2_with fail
            go_ret
            exact ⟨by first | exact SomeBool.no | exact SomeBool.yes, rfl⟩
        · go_wp2_with fail
          go_ret
          exact ⟨by first | exact SomeBool.no | exact SomeBool.yes, rfl⟩
  · clear h hsz
    go_enter Try.func22, Try.ntmps22
    go_wp2_with fail
    go_ret
    exact ⟨by first | exact SomeBool.no | exact SomeBool.yes, rfl⟩

end Go.Proofs.Qxb6000722a
