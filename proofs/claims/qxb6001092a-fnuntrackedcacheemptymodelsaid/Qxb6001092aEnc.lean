/-
  THE WALK of zzB1EncVarint.
-/
import Derived.Test.Qxb6001092aVar
import Derived.Maps.AppendAt
namespace Go.Proofs.Qxb6001092a
open Go.RowKit

theorem info5 : (Try.prog.info? 5).map (fun i => (i.zero, i.size, i.bytes)) = some (some (.int .u8 0), 1, 1) := by kernel_rfl

/-- The bytes of a slice of the call's own at the head of block g. -/
def Own (w : World) (base g : Nat) (xs : List Int) : Prop :=
  w.ownsRow base 5 1 (.slice (some ⟨g, 0, none⟩) xs.length xs.length) xs.length (xs.map (Value.int .u8))

theorem and127_u64 (n : Nat) (h : n < 18446744073709551616) : bits .and .u64 (n : Int) 127 = ((n % 128 : Nat) : Int) := by
  have := bits_mask .u64 64 (by decide) wraps_u64 7 (by decide) (n : Int) (by omega) (by omega)
  rw [show ((2 : Int) ^ 7 - 1) = 127 from rfl] at this
  rw [this]
  omega

set_option maxHeartbeats 1000000 in
theorem enc_any (n : Nat) (w : World) (hn : n < 18446744073709551616) :
    Calls Try.prog 12 #[.int .u64 n] w fun e w' => ∃ g, e = .returned (.slice (some ⟨g, 0, none⟩) (Plain.enc n).length (Plain.enc n).length) ∧ Own w' w.heap.size g (Plain.enc n) ∧ Below w.heap.size w w' := by
  obtain ⟨i5, hi5, z50, z51, z52⟩ := info_parts info5
  have HNN : Hid (n < 18446744073709551616) := hn
  obtain ⟨B, hB⟩ : ∃ B, w.heap.size = B := ⟨_, rfl⟩
  rw [hB]
  have e0 : bits .and .u64 (n : Int) 127 = ((n % 128 : Nat) : Int) := and127_u64 n hn
  obtain ⟨y, hy⟩ : ∃ y : Nat, y = n % 128 := ⟨_, rfl⟩
  rw [← hy] at e0
  have hy2 : y < 128 := by omega
  have HY : Hid (y = n % 128) := hy
  clear hy
  go_enter Try.func12, Try.ntmps12
  go_wp2_with fail
  clear e0
  go_loopw [0, 4] (fun t u wr => ∃ m p : Nat, ∃ L : List Int, p ≤ 9 ∧ m < 18446744073709551616 ∧ t = .int .u64 m ∧ u = .int .i64 p ∧ Hid (m < 2 ^ (1 + 7 * p)) ∧ L.length = 10 ∧ Hid (Plain.encF (p + 1) (m / 128) ++ L.drop p = Plain.enc n) ∧
      wr.ownsRow B 39 1 (.slice (some ⟨B, 0, none⟩) 10 10) 10 (L.map (Value.int .u8)) ∧ Below B w wr ∧ B < wr.heap.size) (fun _ u _ => (intOf u).toNat)
  case atStart =>
    refine ⟨n, 9, [0, 0, 0, 0, 0, 0, 0, 0, 0, (y : Int)], by omega, HNN.out, rfl, rfl, HNN.out, rfl, ?_, ?_, ?_, ?_⟩
    · show _ = _
      rw [HY.out]; rfl
    · have := World.ownsRow_lit (base := B) (e := 39) (size := 1) w #[.int .u8 0, .int .u8 0, .int .u8 0, .int .u8 0, .int .u8 0, .int .u8 0, .int .u8 0, .int .u8 0, .int .u8 0, .int .u8 (y : Int)] 10 (by omega) (by decide) rfl
      rw [hB] at this
      exact this
    · exact (Below.refl B w).alloc (by omega) _
    · simp; omega
  case round =>
    obtain ⟨m, p, L, hp, hm, rfl, rfl, HM, HL, HE, hown, hbel, hsz⟩ := hrel
    by_cases hq : m / 128 = 0
    · have HF : Hid (L.drop p = Plain.enc n) := by have := HE.out; rw [hq, Plain.encF_zero, List.nil_append] at this; exact this
      have hqI : (m : Int) / 128 = 0 := by omega
      have hlen : (Plain.enc n).length = 10 - p := by rw [← HF.out, List.length_drop, HL]
      have HLEN : Hid ((Plain.enc n).length = 10 - p) := hlen
      have HHL : Hid (L.length = 10) := HL
      clear hq HE hlen HL
      go_wp2_with (at_make; refine wpList_make_full _ rfl (.tmp 27) (.tmp 27) 23 rfl B 5 i5 (.int .u8 0) 1 Try.underlying23 hi5 z50 z51 .i64 .i64 _ _ (10 - p) rfl rfl (by omega) (by omega) (by rw [z52]; omega) (by unfold maxLen; omega) (by omega) ?_; intro w1 hown1 hgr1)
      obtain ⟨G, hG⟩ : ∃ G, wr.heap.size = G := ⟨_, rfl⟩
      rw [hG] at hown1
      rw [Nat.mul_one, show (Value.int IntKind.u8 0).cells = #[.int .u8 0] from rfl, toList_madeCells_one] at hown1
      have hbuf := hown.kept hgr1 (.inr (by simp [Value.ownBlock]))
      have hbel1 : Below B w w1 := hbel.grown hgr1 (by omega) (by simp)
      have hGB : B < G := by omega
      clear hown hbel hgr1
      rw [hG]
      obtain ⟨q, hq⟩ : ∃ q, q = 10 - p := ⟨_, rfl⟩
      rw [← hq] at hown1 HLEN ⊢
      have hqp : p + q = 10 := by omega
      have hqI2 : (10 : Int) - (p : Int) = (q : Int) := by omega
      clear hq hG hsz hqI
      go_loopw [6] (fun u wx => ∃ k : Nat, ∃ O : List Int, k ≤ q ∧ u = .int .i64 k ∧ Hid (O.length = q) ∧ Hid (∀ i, i < k → O.getD i 0 = L.getD (p + i) 0) ∧
          wx.ownsRow B 5 1 (.slice (some ⟨G, 0, none⟩) q q) q (O.map (Value.int .u8)) ∧ wx.ownsRow B 39 1 (.slice (some ⟨B, 0, none⟩) 10 10) 10 (L.map (Value.int .u8)) ∧ Below B w wx) (fun u _ => q - (intOf u).toNat)
      case atStart => exact ⟨0, List.replicate q 0, by omega, rfl, by show _ = _; simp, fun i hi => by omega, by simpa using hown1, hbuf, hbel1⟩
      case round =>
        clear hown1 hbuf hbel1
        obtain ⟨k, O, hk, rfl, HO, HC, hown, hbuf, hbel⟩ := hrel
        by_cases hlt : k < q
        · have hsrc := hbuf.cellAt (p + k) (by omega)
          have hLk : p + k < L.length := by rw [HHL.out]; omega
          rw [List.getElem?_map, List.getElem?_eq_getElem hLk] at hsrc
          simp only [Option.map_some] at hsrc
          have hold := hown.cellAt k (by omega)
          have hfz := hown.frozenAt k
          have hkO : k < O.length := by rw [HO.out]; exact hlt
          rw [List.getElem?_map, List.getElem?_eq_getElem hkO] at hold
          simp only [Option.map_some] at hold
          obtain ⟨x, hx⟩ : ∃ x, x = L[p + k] := ⟨_, rfl⟩
          obtain ⟨v, hv⟩ : ∃ v, v = O[k] := ⟨_, rfl⟩
          rw [← hx] at hsrc
          rw [← hv] at hold
          have hst := hown.stored k (.int .u8 x)
          rw [← List.map_set] at hst
          have hbuf' := hbuf.kept hst.2 (.inr (by simp [Value.ownBlock]; omega))
          have hbel' := hbel.grown hst.2 (by have := hbel.size; omega) (by intro t ht; simp at ht; omega)
          have HC' : Hid (∀ i, i < k + 1 → (O.set k x).getD i 0 = L.getD (p + i) 0) := by
            intro i hi
            rw [List.getD_eq_getElem?_getD, List.getElem?_set]
            by_cases e : k = i
            · subst e
              rw [if_pos rfl, if_pos hkO, hx, List.getD_eq_getElem?_getD, List.getElem?_eq_getElem hLk]
            · rw [if_neg e, ← List.getD_eq_getElem?_getD]
              exact HC.out i (by omega)
          have hown' := hst.1
          clear hst hx hv hown hbuf hbel hLk hkO
          go_wp2_with fail
          go_roundw
          case rel => exact ⟨k + 1, O.set k x, by omega, by go_num, by show _ = _; rw [List.length_set]; exact HO.out, HC'.out, hown', hbuf', hbel'⟩
          case measure => simp [intOf]; omega
        · have HOE : Hid (O = Plain.enc n) := by
            show _ = _
            rw [← HF.out]
            apply List.ext_getElem
            · rw [HO.out, List.length_drop, HHL.out]; omega
            · intro i h1 h2
              have hc := HC.out i (by have := HO.out; omega)
              rw [List.getD_eq_getElem?_getD, List.getElem?_eq_getElem h1, List.getD_eq_getElem?_getD, List.getElem?_eq_getElem (by rw [List.length_drop] at h2; omega)] at hc
              rw [List.getElem_drop]
              exact hc
          clear HC
          go_wp2_with fail
          go_ret
          refine ⟨G, ?_, ?_, hbel⟩
          · rw [HLEN.out]; rfl
          · unfold Own
            rw [HLEN.out, ← HOE.out]
            exact hown
    · obtain ⟨q, hqq⟩ : ∃ q, q = m / 128 := ⟨_, rfl⟩
      have hqI : (m : Int) / 128 = (q : Int) := by omega
      have hq1 : 1 ≤ q := by omega
      have hqne : ((q : Int) == 0) = false := by simp; omega
      have hqm : q < 18446744073709551616 := by omega
      have hp1 : 1 ≤ p := by
        rcases Nat.eq_zero_or_pos p with e | e
        · have := HM.out
          rw [e] at this
          simp at this
          omega
        · exact e
      have HM2 : Hid (q - 1 < 2 ^ (1 + 7 * (p - 1))) := by
        have h1 := HM.out
        have h2 : 2 ^ (1 + 7 * p) = 2 ^ (1 + 7 * (p - 1)) * 128 := by
          rw [show 1 + 7 * p = (1 + 7 * (p - 1)) + 7 from by omega, Nat.pow_add]
        show _ < _
        rw [h2] at h1
        omega
      have HE2 : Hid (Plain.encF p ((q - 1) / 128) ++ ((128 + (((q - 1) % 128 : Nat) : Int)) :: L.drop p) = Plain.enc n) := by
        show _ = _
        have := HE.out
        rw [← hqq, Plain.encF_succ p q (by omega), List.append_assoc] at this
        exact this
      have e0 := and127_u64 (q - 1) (by omega)
      rw [show ((q - 1 : Nat) : Int) = (q : Int) - 1 from by omega] at e0
      obtain ⟨y', hy'⟩ : ∃ y' : Nat, y' = (q - 1) % 128 := ⟨_, rfl⟩
      rw [← hy'] at e0 HE2
      have hy'2 : y' < 128 := by omega
      have e1 : bits .or .u8 128 (y' : Int) = 128 + (y' : Int) := bits_join .u8 8 (by decide) wraps_u8 7 128 y' (by decide) (by decide) (by decide) (by omega) (by omega) (by omega)
      have hold := hown.cellAt (p - 1) (by omega)
      have hfz := hown.frozenAt (p - 1)
      have hpL : p - 1 < L.length := by omega
      rw [List.getElem?_map, List.getElem?_eq_getElem hpL] at hold
      simp only [Option.map_some] at hold
      obtain ⟨v, hv⟩ : ∃ v, v = L[p - 1] := ⟨_, rfl⟩
      rw [← hv] at hold
      have hst := hown.stored (p - 1) (.int .u8 (128 + (y' : Int)))
      rw [← List.map_set] at hst
      have hbel' := hbel.grown hst.2 (by have := hbel.size; omega) (by intro t ht; simp at ht; omega)
      have hsz' : B < (wr.setCell ⟨B, p - 1, none⟩ (.int .u8 (128 + (y' : Int)))).heap.size := by simp; omega
      have HE3 : Hid (Plain.encF (p - 1 + 1) ((q - 1) / 128) ++ (L.set (p - 1) (128 + (y' : Int))).drop (p - 1) = Plain.enc n) := by
        show _ = _
        rw [← HE2.out, show p - 1 + 1 = p from by omega]
        congr 1
        rw [List.drop_eq_getElem_cons (by rw [List.length_set]; exact hpL), List.getElem_set_self, show p - 1 + 1 = p from by omega, List.drop_set_of_lt (by omega)]
      have hown' := hst.1
      have HHL : Hid (L.length = 10) := HL
      clear hst hv hown hbel hy' hqq hq HM HE HE2 hpL HL
      go_wp2_with fail
      go_roundw
      case rel => exact ⟨q - 1, p - 1, L.set (p - 1) (128 + (y' : Int)), by omega, by omega, by go_num, by go_num, HM2.out, by rw [List.length_set]; exact HHL.out, HE3.out, hown', hbel', hsz'⟩
      case measure => simp [intOf]; omega

end Go.Proofs.Qxb6001092a
