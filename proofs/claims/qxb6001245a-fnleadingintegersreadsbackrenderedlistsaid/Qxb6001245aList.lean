/-
  THE WALKS of leadingIntegers, ZZLeadingIntegers.
-/
import Derived.Test.Qxb6001245aInt
import Derived.Test.Qxb6001245aApp
import Derived.Lib.SlBytesConst
import Derived.OwnWalk
namespace Go.Proofs.Qxb6001245a
open Go.RowKit

theorem drop_add {zs l r : List Int} {i : Nat} (h : zs.drop i = l ++ r) : zs.drop (i + l.length) = r := by
  rw [← List.drop_drop, h, List.drop_left]

theorem dec_head (v : Int) : ∃ c s, Plain.dec v = c :: s ∧ (c = 45 ∨ (48 ≤ c ∧ c ≤ 57)) := by
  unfold Plain.dec
  split
  · exact ⟨45, _, rfl, .inl rfl⟩
  · have hp := Plain.dg_pos v.toNat
    cases hd : Plain.dg v.toNat with
    | nil => rw [hd] at hp; simp at hp
    | cons c s => exact ⟨c, s, rfl, .inr (Plain.dg_digit v.toNat c (by rw [hd]; simp))⟩

theorem leadDec (b o n c i : Nat) (v : Int) (zs r : List Int) (w : World) (hn : zs.length = n) (hmax : n ≤ 1073741824) (h : Txt w b o zs) (hi : i ≤ n) (hd : zs.drop i = Plain.dec v ++ r) (hv0 : -9223372036854775808 ≤ v) (hv1 : v ≤ 9223372036854775807) (hr : ∀ y s, r = y :: s → ¬ (48 ≤ y ∧ y ≤ 57)) :
    Calls Try.prog 22 #[.slice (some ⟨b, o, none⟩) n c, .int .i64 i] w fun e w' => e = .returned (.tuple #[.int .i64 v, .int .i64 ((i + (Plain.dec v).length : Nat) : Int), .bool true]) ∧ w' = w := by
  by_cases h0 : v < 0
  · have hdv : Plain.dec v = 45 :: Plain.dg (-v).toNat := by unfold Plain.dec; rw [if_pos h0]
    rw [hdv] at hd ⊢
    refine (leadNeg b o n c i (-v).toNat zs r w hn hmax h hi hd (by omega) (by omega) hr).mono ?_
    rintro e w' ⟨rfl, rfl⟩
    exact ⟨ret_three (by omega) (by simp; omega), rfl⟩
  · have hdv : Plain.dec v = Plain.dg v.toNat := by unfold Plain.dec; rw [if_neg h0]
    rw [hdv] at hd ⊢
    refine (leadPos b o n c i v.toNat zs r w hn hmax h hi hd (by omega) hr).mono ?_
    rintro e w' ⟨rfl, rfl⟩
    exact ⟨ret_three (by omega) rfl, rfl⟩

theorem indexByte_in : ∀ (zs : List Int), 93 ∈ zs → ∃ q : Nat, q < zs.length ∧ Lib.indexByte (Lib.bytesOf zs) (93 : Int).toNat.toUInt8 = (q : Int)
  | [], h => by simp at h
  | z :: r, h => by
    by_cases hz : (UInt8.ofNat z.toNat == (93 : Int).toNat.toUInt8) = true
    · exact ⟨0, by simp, by show Lib.indexByte (UInt8.ofNat z.toNat :: Lib.bytesOf r) _ = _; rw [Lib.indexByte, if_pos hz]; rfl⟩
    · have hr : 93 ∈ r := by
        rcases List.mem_cons.1 h with e | e
        · subst e; exact absurd rfl hz
        · exact e
      obtain ⟨q, hq, he⟩ := indexByte_in r hr
      refine ⟨q + 1, by simp; omega, ?_⟩
      show Lib.indexByte (UInt8.ofNat z.toNat :: Lib.bytesOf r) _ = _
      rw [Lib.indexByte, if_neg hz, he, if_neg (by simp)]
      rfl

theorem count_le (zs : List Int) (c : UInt8) : Lib.countByte (Lib.bytesOf zs) c ≤ zs.length := by
  have := List.count_le_length (a := c) (l := Lib.bytesOf zs)
  unfold Lib.countByte
  unfold Lib.bytesOf at *
  rw [List.length_map] at this
  exact this

theorem spc_dec {v : Int} {r : List Int} : ∀ y s, Plain.dec v ++ r = y :: s → ¬ Plain.spc y := by
  intro y s h
  obtain ⟨c, s', hd, hc⟩ := dec_head v
  rw [hd, List.cons_append] at h
  injection h with h1 h2
  unfold Plain.spc
  omega

theorem spc_lft {g t : List Int} : ∀ xs y s, Plain.lft g t xs = y :: s → ¬ Plain.spc y := by
  intro xs y s h
  unfold Plain.spc
  cases xs with
  | nil => rw [Plain.lft] at h; injection h with h1 h2; omega
  | cons x r => rw [Plain.lft] at h; injection h with h1 h2; omega

theorem dig_lft {g t : List Int} (hg : ∀ x ∈ g, Plain.spc x) : ∀ xs y s, g ++ Plain.lft g t xs = y :: s → ¬ (48 ≤ y ∧ y ≤ 57) := by
  intro xs y s h
  cases g with
  | nil =>
    rw [List.nil_append] at h
    cases xs with
    | nil => rw [Plain.lft] at h; injection h with h1 h2; omega
    | cons x r => rw [Plain.lft] at h; injection h with h1 h2; omega
  | cons c s' =>
    rw [List.cons_append] at h
    injection h with h1 h2
    have := hg c (by simp)
    unfold Plain.spc at this
    omega

theorem Txt.kept {w w' : World} {b o : Nat} {zs : List Int} (h : Txt w b o zs) (k : w.grownBy w' none) : Txt w' b o zs :=
  ⟨fun i hi => k.cell (h.1 i hi) (by simp), h.2⟩

/-- A list of int64 of the call's own: not nil. -/
def OwnL (w : World) (base : Nat) (v : Value) (n : Nat) (xs : List Int) : Prop :=
  w.ownsRow base 2 1 v n (xs.map (Value.int .i64)) ∧ v ≠ .slice none 0 0

theorem ret_list {v : Value} {e e' : Int} (h : e = e') : Ending.returned (.tuple #[v, .int .i64 e, .bool true]) = .returned (.tuple #[v, .int .i64 e', .bool true]) := by rw [h]

theorem take_snoc {l : List Int} {k : Nat} {x : Int} {r : List Int} (h : l.drop k = x :: r) : l.take (k + 1) = l.take k ++ [x] := by
  have hk : l[k]? = some x := by have := List.getElem?_drop (xs := l) (i := k) (j := 0); rw [h] at this; simpa using this.symm
  rw [List.take_add_one, hk]; rfl

set_option maxHeartbeats 2000000 in
theorem leadList_nil (b o n c i : Nat) (zs g t : List Int) (w : World) (hn : zs.length = n) (hmax : n ≤ 1073741824) (h : Txt w b o zs) (hi : i ≤ n) (hc : n ≤ c) (hd : zs.drop i = 91 :: (g ++ Plain.fst g t [])) (hg : ∀ x ∈ g, Plain.spc x) :
    Calls Try.prog 23 #[.slice (some ⟨b, o, none⟩) n c, .int .i64 i] w fun e w' => ∃ v, e = .returned (.tuple #[v, .int .i64 ((n - t.length : Nat) : Int), .bool true]) ∧ OwnL w' w.heap.size v 0 [] ∧ w.grownBy w' none := by
  obtain ⟨i2, hi2, z20, z21, z22⟩ := info_parts info2
  have kc := fun (w : World) (C : Array Value) (n c : Nat) => Lib.run_convert_bytes_const (P := Try.prog) w 22 5 C n c Try.underlying22 Try.underlying5
  have hlen : zs.length - i = (91 :: (g ++ Plain.fst g t [])).length := by rw [← hd, List.length_drop]
  rw [hn] at hlen
  simp only [Plain.fst, List.length_cons, List.length_append] at hlen
  have hcell := h.1 i (by omega)
  have h91 : zs.getD i 0 = 91 := by have := getD_drop zs i 0; rw [hd] at this; simpa using this.symm
  rw [h91] at hcell
  obtain ⟨q, hq, hqe⟩ := indexByte_in (zs.drop i) (by rw [hd]; exact List.mem_cons_of_mem _ (List.mem_append_right _ (Plain.fst_mem g t _)))
  rw [List.length_drop, hn] at hq
  have C1 := Try.bytes_IndexByte b (o + i) (n - i) (c - i) (zs.drop i) 93 w (by rw [List.length_drop, hn]) (fun j hj => (h.drop i).1 j (by rw [List.length_drop, hn]; exact hj))
  rw [hqe] at C1
  have C2 := Try.bytes_Count_one b (o + i) q (c - i) w.heap.size 0 1 ((zs.drop i).take q) 44 (w.alloc (.cells #[.int .u8 44] 5 (1, 2))) (by rw [List.length_take, List.length_drop, hn]; omega) (fun j hj => by
      have hh := (h.kept (World.grownBy_alloc w (.cells #[.int .u8 44] 5 (1, 2)) none)).drop i
      have := hh.1 j (by rw [List.length_drop, hn]; omega)
      rw [this]
      simp [List.getD_eq_getElem?_getD, hj]) (by rw [World.cell?_alloc_mark]; rfl)
  have hK := count_le ((zs.drop i).take q) (44 : Int).toNat.toUInt8
  obtain ⟨K, hKe⟩ : ∃ K : Nat, Lib.countByte (Lib.bytesOf ((zs.drop i).take q)) (44 : Int).toNat.toUInt8 = K := ⟨_, rfl⟩
  rw [hKe] at C2 hK
  rw [List.length_take, List.length_drop, hn] at hK
  have hKn : K ≤ 1073741824 := by omega
  have HT : Hid (Txt w b o zs) := h
  have HG : Hid (∀ x ∈ g, Plain.spc x) := hg
  have HD : Hid (zs.drop (i + 1) = g ++ Plain.fst g t []) := by
    show _ = _
    rw [← List.drop_drop, hd]; rfl
  have HN : Hid (zs.length = n) := hn
  have hin : i < n := by omega
  have hE : i + 1 + g.length + 1 = n - t.length := by omega
  have hEn : i + 1 + g.length < n := by omega
  clear hKe hqe hK hd h hn h91 hlen hg
  go_enter Try.func23, Try.ntmps23
  go_wp2_with fail
  refine C1.mono ?_
  rintro e w1 ⟨rfl, hw1⟩
  subst hw1
  clear C1
  go_wp2_with fail
  refine C2.mono ?_
  rintro e w2 ⟨rfl, hw2⟩
  subst hw2
  clear C2 kc
  go_wp2_with (at_make; refine wpList_make_own _ rfl (.const (.int .i64 0)) (.tmp 39) 32 rfl w1.heap.size 2 i2 (.int .i64 0) 1 Try.underlying32 hi2 z20 z21 .i64 .i64 _ (K + 1) rfl rfl (by omega) (by rw [z22]; omega) (by unfold maxLen; omega) (by simp) ?_; intro w2 hown2 hgr2)
  have hgr : w1.grownBy w2 none := (World.grownBy_alloc _ _ _).trans hgr2
  have C3 := skipSpace_any b o n c (i + 1) zs g _ w2 HN.out hmax (HT.out.kept hgr) (by omega) HD.out HG.out (fun y s e => by rw [Plain.fst] at e; unfold Plain.spc; injection e with e1 e2; omega)
  rw [show (w1.alloc (Obj.cells #[Value.int .u8 44] 5 (1, 2))).heap.size = w1.heap.size + 1 from by simp] at hown2
  clear hgr2
  refine C3.mono ?_
  rintro e w3 ⟨rfl, hw3⟩
  subst hw3
  clear C3
  have HTT : Hid (Txt w3 b o zs) := HT.out.kept hgr
  obtain ⟨p, hp⟩ : ∃ p, p = i + 1 + g.length := ⟨_, rfl⟩
  have HDP : Hid (zs.drop p = 93 :: t) := by show _ = _; rw [hp]; exact drop_add HD.out
  have hpc : zs.getD p 0 = 93 := by have := getD_drop zs p 0; rw [HDP.out] at this; simpa using this.symm
  have hcp := HTT.out.1 p (by rw [HN.out, hp]; exact hEn)
  rw [hpc] at hcp
  rw [← hp] at hEn ⊢
  rw [← hp] at hE
  clear hpc hp HD HDP hcell hq
  go_wp2_with fail
  go_ret3
  exact ⟨_, ret_list (by omega), ⟨hown2, by simp⟩, hgr⟩

set_option maxHeartbeats 2000000 in
theorem leadList_cons (b o n c i : Nat) (zs g t : List Int) (x0 : Int) (xr : List Int) (hxs : ∀ y ∈ x0 :: xr, -9223372036854775808 ≤ y ∧ y ≤ 9223372036854775807) (w : World) (hn : zs.length = n) (hmax : n ≤ 1073741824) (h : Txt w b o zs) (hi : i ≤ n) (hc : n ≤ c) (hd : zs.drop i = 91 :: (g ++ Plain.fst g t (x0 :: xr))) (hg : ∀ x ∈ g, Plain.spc x) :
    Calls Try.prog 23 #[.slice (some ⟨b, o, none⟩) n c, .int .i64 i] w fun e w' => ∃ v, e = .returned (.tuple #[v, .int .i64 ((n - t.length : Nat) : Int), .bool true]) ∧ OwnL w' w.heap.size v (xr.length + 1) (x0 :: xr) ∧ w.grownBy w' none := by
  obtain ⟨i2, hi2, z20, z21, z22⟩ := info_parts info2
  have kc := fun (w : World) (C : Array Value) (n c : Nat) => Lib.run_convert_bytes_const (P := Try.prog) w 22 5 C n c Try.underlying22 Try.underlying5
  have hlen : zs.length - i = (91 :: (g ++ Plain.fst g t (x0 :: xr))).length := by rw [← hd, List.length_drop]
  rw [hn] at hlen
  simp only [Plain.fst, List.length_cons, List.length_append] at hlen
  have hcell := h.1 i (by omega)
  have h91 : zs.getD i 0 = 91 := by have := getD_drop zs i 0; rw [hd] at this; simpa using this.symm
  rw [h91] at hcell
  obtain ⟨q, hq, hqe⟩ := indexByte_in (zs.drop i) (by rw [hd]; exact List.mem_cons_of_mem _ (List.mem_append_right _ (Plain.fst_mem g t _)))
  rw [List.length_drop, hn] at hq
  have C1 := Try.bytes_IndexByte b (o + i) (n - i) (c - i) (zs.drop i) 93 w (by rw [List.length_drop, hn]) (fun j hj => (h.drop i).1 j (by rw [List.length_drop, hn]; exact hj))
  rw [hqe] at C1
  have C2 := Try.bytes_Count_one b (o + i) q (c - i) w.heap.size 0 1 ((zs.drop i).take q) 44 (w.alloc (.cells #[.int .u8 44] 5 (1, 2))) (by rw [List.length_take, List.length_drop, hn]; omega) (fun j hj => by
      have hh := (h.kept (World.grownBy_alloc w (.cells #[.int .u8 44] 5 (1, 2)) none)).drop i
      have := hh.1 j (by rw [List.length_drop, hn]; omega)
      rw [this]
      simp [List.getD_eq_getElem?_getD, hj]) (by rw [World.cell?_alloc_mark]; rfl)
  have hK := count_le ((zs.drop i).take q) (44 : Int).toNat.toUInt8
  obtain ⟨K, hKe⟩ : ∃ K : Nat, Lib.countByte (Lib.bytesOf ((zs.drop i).take q)) (44 : Int).toNat.toUInt8 = K := ⟨_, rfl⟩
  rw [hKe] at C2 hK
  rw [List.length_take, List.length_drop, hn] at hK
  have hKn : K ≤ 1073741824 := by omega
  have HT : Hid (Txt w b o zs) := h
  have HG : Hid (∀ x ∈ g, Plain.spc x) := hg
  have HD : Hid (zs.drop (i + 1) = g ++ Plain.fst g t (x0 :: xr)) := by
    show _ = _
    rw [← List.drop_drop, hd]; rfl
  have HN : Hid (zs.length = n) := hn
  have hin : i < n := by omega
  have HXS : Hid (∀ y ∈ x0 :: xr, -9223372036854775808 ≤ y ∧ y ≤ 9223372036854775807) := hxs
  have hEn : i + 1 + g.length < n := by have := Plain.dg_pos x0.toNat; obtain ⟨c', s', hdc, _⟩ := dec_head x0; have hl1 : (Plain.dec x0).length = s'.length + 1 := by rw [hdc]; rfl
                                        omega
  clear hxs
  clear hKe hqe hK hd h hn h91 hlen hg
  go_enter Try.func23, Try.ntmps23
  go_wp2_with fail
  refine C1.mono ?_
  rintro e w1 ⟨rfl, hw1⟩
  subst hw1
  clear C1
  go_wp2_with fail
  refine C2.mono ?_
  rintro e w2 ⟨rfl, hw2⟩
  subst hw2
  clear C2 kc
  go_wp2_with (at_make; refine wpList_make_own _ rfl (.const (.int .i64 0)) (.tmp 39) 32 rfl w1.heap.size 2 i2 (.int .i64 0) 1 Try.underlying32 hi2 z20 z21 .i64 .i64 _ (K + 1) rfl rfl (by omega) (by rw [z22]; omega) (by unfold maxLen; omega) (by simp) ?_; intro w2 hown2 hgr2)
  have hgr : w1.grownBy w2 none := (World.grownBy_alloc _ _ _).trans hgr2
  have C3 := skipSpace_any b o n c (i + 1) zs g _ w2 HN.out hmax (HT.out.kept hgr) (by omega) HD.out HG.out (spc_dec (v := x0))
  rw [show (w1.alloc (Obj.cells #[Value.int .u8 44] 5 (1, 2))).heap.size = w1.heap.size + 1 from by simp] at hown2
  clear hgr2
  refine C3.mono ?_
  rintro e w3 ⟨rfl, hw3⟩
  subst hw3
  clear C3
  have HTT : Hid (Txt w3 b o zs) := HT.out.kept hgr
  obtain ⟨p, hp⟩ : ∃ p, p = i + 1 + g.length := ⟨_, rfl⟩
  have HDP : Hid (zs.drop p = Plain.dec x0 ++ (g ++ Plain.lft g t xr)) := by show _ = _; rw [hp]; exact drop_add HD.out
  obtain ⟨c0, s0, hdc, hcc⟩ := dec_head x0
  have hpc : zs.getD p 0 = c0 := by have := getD_drop zs p 0; rw [HDP.out, hdc] at this; simpa using this.symm
  have hcp := HTT.out.1 p (by rw [HN.out, hp]; exact hEn)
  rw [hpc] at hcp
  have hc93 : (c0 == 93) = false := by simp; omega
  rw [← hp] at hEn ⊢
  clear hpc hdc hcc hp HD hcell hq
  go_wp2_with fail
  clear hcp hc93
  go_loopw [4, 5] (fun v u wr => ∃ k p : Nat, ∃ x : Int, ∃ xr' : List Int, p < n ∧ k ≤ p ∧ u = .int .i64 p ∧ Hid ((x0 :: xr).drop k = x :: xr') ∧ Hid (zs.drop p = Plain.dec x ++ (g ++ Plain.lft g t xr')) ∧ OwnL wr w1.heap.size v k ((x0 :: xr).take k) ∧ w1.grownBy wr none) (fun _ u _ => n - (intOf u).toNat)
  case atStart => exact ⟨0, p, x0, xr, hEn, by omega, rfl, rfl, HDP.out, ⟨hown2, by simp⟩, hgr⟩
  case round =>
    clear hgr hown2 HDP hEn HTT
    obtain ⟨k, p, x, xr', hpn, hkp, rfl, HX, HDP, hown, hgr⟩ := hrel
    have hxb := HXS.out x (by have : x ∈ (x0 :: xr).drop k := (by rw [HX.out]; simp); exact List.mem_of_mem_drop this)
    have C1 := leadDec b o n c p x zs (g ++ Plain.lft g t xr') wr HN.out hmax (HT.out.kept hgr) (by omega) HDP.out hxb.1 hxb.2 (dig_lft HG.out xr')
    have hdl : 1 ≤ (Plain.dec x).length := by obtain ⟨c', s', hdc, _⟩ := dec_head x; rw [hdc]; simp
    have hsz := hgr.size
    have HXB : Hid (-9223372036854775808 ≤ x ∧ x ≤ 9223372036854775807) := hxb
    clear hxb
    obtain ⟨pa, hpa⟩ : ∃ pa, p + (Plain.dec x).length = pa := ⟨_, rfl⟩
    have HDA : Hid (zs.drop pa = g ++ Plain.lft g t xr') := by show _ = _; rw [← hpa]; exact drop_add HDP.out
    have hpap : p + 1 ≤ pa := by omega
    have hlA : (g ++ Plain.lft g t xr').length = n - pa := by rw [← HDA.out, List.length_drop, HN.out]
    rw [List.length_append] at hlA
    rw [hpa] at C1
    clear hpa hdl
    obtain ⟨pe, hpe⟩ : ∃ pe, pa + g.length = pe := ⟨_, rfl⟩
    have HDE : Hid (zs.drop pe = Plain.lft g t xr') := by show _ = _; rw [← hpe]; exact drop_add HDA.out
    go_wp2_with fail
    refine C1.mono ?_
    rintro e w2 ⟨rfl, hw2⟩
    subst hw2
    clear C1
    go_wp2_with (first | (at_builtin; refine wpList_append_own _ rfl (.tmp 69) (.tmp 71) 32 rfl w1.heap.size 2 i2 (.int .i64 0) 1 8 Try.underlying32 hi2 z20 z21 z22 rfl (by omega) _ k _ rfl (hown.1.alloc _) ⟨w2.heap.size, 0, none⟩ 1 1 [.int .i64 x] rfl rfl (cell_one_new _ _ _) (by intro u hu; simp at hu; subst hu; rfl) (by unfold maxLen; omega) (by omega) (by simp; omega) ?_; intro v' w3 hown3 hgr3 hnil))
    have hgr4 : w1.grownBy w3 none := (hgr.trans (World.grownBy_alloc _ _ _)).andThen hgr3 (fun j hj => .inl (hown.1.lt j hj).1)
    have hOL : OwnL w3 w1.heap.size v' (k + 1) ((x0 :: xr).take (k + 1)) := by
      refine ⟨?_, fun e => ?_⟩
      · rw [take_snoc HX.out, List.map_append]; exact hown3
      · exact absurd (hnil.1 e).2 (by omega)
    clear hgr3 hown3 hnil hgr hown
    have hlP : 1 ≤ (Plain.lft g t xr').length := by cases xr' with
      | nil => simp [Plain.lft]
      | cons x2 r2 => simp [Plain.lft]
    have C3 := skipSpace_any b o n c pa zs g (Plain.lft g t xr') w3 HN.out hmax (HT.out.kept hgr4) (by omega) HDA.out HG.out (spc_lft xr')
    rw [hpe] at C3
    refine C3.mono ?_
    rintro e w4 ⟨rfl, hw4⟩
    subst hw4
    clear C3
    have hpen : pe < n := by omega
    have hpel : pa ≤ pe := by omega
    have hlE : (Plain.lft g t xr').length = n - pe := by omega
    clear hlA hpe hlP HDA
    have hcp := (HT.out.kept hgr4).1 pe (by rw [HN.out]; exact hpen)
    have hpc := getD_drop zs pe 0
    rw [HDE.out] at hpc
    cases hxr : xr' with
    | nil =>
      rw [hxr] at hpc HX HDE hlE
      simp only [Plain.lft, List.getD_cons_zero, Nat.add_zero] at hpc
      rw [← hpc] at hcp
      simp only [Plain.lft, List.length_cons] at hlE
      clear hpc hxr
      go_wp2_with fail
      go_ret3
      have hk : k = xr.length := by have := congrArg List.length HX.out; rw [List.length_drop] at this; simp at this; omega
      rw [hk, List.take_of_length_le (by simp)] at hOL
      exact ⟨_, ret_list (by omega), hOL, hgr4⟩
    | cons x2 r2 =>
      rw [hxr] at hpc HX HDE hlE
      simp only [Plain.lft, List.getD_cons_zero, Nat.add_zero] at hpc
      rw [← hpc] at hcp
      have HD5 : Hid (zs.drop (pe + 1) = g ++ (Plain.dec x2 ++ (g ++ Plain.lft g t r2))) := by
        show _ = _
        rw [← List.drop_drop, HDE.out, Plain.lft]; rfl
      have hdl2 : 1 ≤ (Plain.dec x2).length := by obtain ⟨c', s', hdc, _⟩ := dec_head x2; rw [hdc]; simp
      simp only [Plain.lft, List.length_cons, List.length_append] at hlE
      have C5 := skipSpace_any b o n c (pe + 1) zs g (Plain.dec x2 ++ (g ++ Plain.lft g t r2)) w4 HN.out hmax (HT.out.kept hgr4) (by omega) HD5.out HG.out (spc_dec (v := x2))
      clear hpc hxr
      go_wp2_with fail
      refine C5.mono ?_
      rintro e w5 ⟨rfl, hw5⟩
      subst hw5
      clear C5
      go_wp2_with fail
      go_roundw
      case rel => exact ⟨k + 1, pe + 1 + g.length, x2, r2, by omega, by omega, rfl, by show _ = _; rw [← List.drop_drop, HX.out]; rfl, by show _ = _; exact drop_add HD5.out, hOL, hgr4⟩
      case measure => simp [intOf]; omega

end Go.Proofs.Qxb6001245a
