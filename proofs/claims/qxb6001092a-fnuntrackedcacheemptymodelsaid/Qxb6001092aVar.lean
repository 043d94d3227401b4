/-
  THE WALKS of varint, zzB1HasNul, untrackedCacheEmpty.
-/
import Derived.Test.Qxb6001092aRows
import Derived.Test.Qxb6001092aShelf
import Derived.Test.Qxb6001092aPlain
import Derived.Lib.IndexLaws
import Derived.WalkKit
import Derived.WalkSpells
import Derived.WalkLawsBesides
namespace Go.Proofs.Qxb6001092a
open Go.RowKit

theorem ret_int {k : IntKind} {a b : Int} (h : a = b) : Ending.returned (.int k a) = .returned (.int k b) := by rw [h]

/-- The bytes zs lie from place o of block b on. -/
def Txt (w : World) (b o : Nat) (zs : List Int) : Prop :=
  (∀ i, i < zs.length → w.cell? ⟨b, o + i, none⟩ = some (.int .u8 (zs.getD i 0))) ∧ ∀ i, 0 ≤ zs.getD i 0 ∧ zs.getD i 0 ≤ 255

theorem getD_drop (zs : List Int) (k i : Nat) : (zs.drop k).getD i 0 = zs.getD (k + i) 0 := by
  simp [List.getD_eq_getElem?_getD, List.getElem?_drop]

theorem drop_cons (zs : List Int) (k : Nat) (hk : k < zs.length) : zs.drop k = zs.getD k 0 :: zs.drop (k + 1) := by
  rw [List.drop_eq_getElem_cons hk, List.getD_eq_getElem?_getD, List.getElem?_eq_getElem hk]; rfl

theorem Txt.drop {w : World} {b o : Nat} {zs : List Int} (h : Txt w b o zs) (k : Nat) : Txt w b (o + k) (zs.drop k) := by
  refine ⟨fun i hi => ?_, fun i => ?_⟩
  · rw [getD_drop, Nat.add_assoc]
    exact h.1 (k + i) (by simp at hi; omega)
  · rw [getD_drop]; exact h.2 _

theorem wraps_u64 (n : Int) (h₀ : 0 ≤ n) (h₁ : n < 2 ^ 64) : IntKind.u64.wrap n = n := by rw [IntKind.wrap_u64]; omega
theorem and127 (z : Int) (h0 : 0 ≤ z) (h1 : z < 256) : bits .and .u8 z 127 = z % 128 := bits_mask .u8 8 (by decide) wraps_u8 7 (by decide) z h0 h1
set_option maxRecDepth 100000 in
theorem and128_nat : ∀ n : Fin 256, (n.val &&& 128 = 0 ↔ n.val < 128) := by decide
theorem and128 (z : Int) (h0 : 0 ≤ z) (h1 : z < 256) : (bits .and .u8 z 128 == 0) = decide (z < 128) := by
  rw [u8_and z 128 h0 h1 (by decide) (by decide)]
  have := and128_nat ⟨z.toNat, by omega⟩
  simp only at this
  rw [show ((128 : Int).toNat) = 128 from rfl]
  by_cases hz : z < 128
  · rw [decide_eq_true hz, this.2 (by omega)]; rfl
  · rw [decide_eq_false hz]
    have hne : z.toNat &&& 128 ≠ 0 := fun e => hz (by have := this.1 e; omega)
    simp only [beq_eq_false_iff_ne]
    omega
theorem or_u64 (x y : Int) (h0 : 0 ≤ x) (h1 : x % 128 = 0) (h2 : x < 18446744073709551616) (h3 : 0 ≤ y) (h4 : y < 128) : bits .or .u64 x y = x + y :=
  bits_join .u64 64 (by decide) wraps_u64 7 x y h0 h1 h2 h3 h4 (by omega)

set_option maxHeartbeats 1000000 in
theorem varint_any (b o n c : Nat) (zs : List Int) (w : World) (hn : zs.length = n) (hmax : n ≤ 1073741824) (h : Txt w b o zs) :
    Calls Try.prog 27 #[.slice (some ⟨b, o, none⟩) n c] w fun e w' => e = .returned (.tuple #[.int .u64 ((Plain.vr 0 0 zs).1 : Nat), .int .i64 ((Plain.vr 0 0 zs).2 : Nat)]) ∧ w' = w := by
  have HT : Hid (Txt w b o zs) := h
  have HN : Hid (zs.length = n) := hn
  clear h hn
  go_enter Try.func27, Try.ntmps27
  go_wp2_with fail
  go_loop [2, 8] (fun t u => ∃ x k : Nat, k ≤ n ∧ x < 18446744073709551616 ∧ (k = 0 → x = 0) ∧ t = .int .u64 x ∧ u = .int .i64 k ∧ Hid (Plain.vr x k (zs.drop k) = Plain.vr 0 0 zs)) (fun _ u => n - (intOf u).toNat)
  case atStart => exact ⟨0, 0, by omega, by omega, fun _ => rfl, rfl, rfl, by show _ = _; rw [List.drop_zero]⟩
  case round =>
    obtain ⟨x, k, hk, hx, hx0, rfl, rfl, HV⟩ := hrel
    by_cases hlt : k < n
    · have hcell := HT.out.1 k (by rw [HN.out]; exact hlt)
      have hbd := HT.out.2 k
      have hv := HV.out
      rw [drop_cons zs k (by rw [HN.out]; exact hlt)] at hv
      obtain ⟨z, hz⟩ : ∃ z, z = zs.getD k 0 := ⟨_, rfl⟩
      rw [← hz] at hcell hbd hv
      have HV1 : Hid (Plain.vr x k (z :: zs.drop (k + 1)) = Plain.vr 0 0 zs) := hv
      clear hz hv HV
      by_cases hk0 : k = 0
      · have hxx := hx0 hk0
        subst hk0
        subst hxx
        clear hx0 hx
        rw [Nat.add_zero] at hcell
        obtain ⟨y, hy⟩ : ∃ y : Nat, (y : Int) = z % 128 := ⟨(z % 128).toNat, by omega⟩
        have e1 : bits .and .u8 z 127 = (y : Int) := by rw [and127 z (by omega) (by omega), hy]
        have e3 : bits .or .u64 0 (y : Int) = (y : Int) := by rw [or_u64 0 y (by omega) (by omega) (by omega) (by omega) (by omega)]; omega
        have e2 := and128 z (by omega) (by omega)
        have hy2 : y < 128 := by omega
        have HY : Hid ((y : Int) = z % 128) := hy
        clear hy
        by_cases hz : z < 128
        · rw [decide_eq_true hz] at e2
          have HE := Plain.vr_end (n := 0) (i := 0) (b := z) (r := zs.drop 1) (by simp) hz
          rw [HV1.out] at HE
          have HE' : Hid (Plain.vr 0 0 zs = (y, 1)) := by
            show _ = _
            rw [HE, if_neg (by omega), ← HY.out]; simp
          clear HE HV1 hz
          go_wp2_with fail
          go_ret2
          exact ⟨by rw [HE'.out]; rfl, rfl⟩
        · rw [decide_eq_false hz] at e2
          have HE := Plain.vr_more (n := 0) (i := 0) (b := z) (r := zs.drop 1) (by simp) hz
          rw [HV1.out] at HE
          have HE' : Hid (Plain.vr y 1 (zs.drop 1) = Plain.vr 0 0 zs) := by
            show _ = _
            rw [HE, if_neg (by omega), ← HY.out]; simp
          clear HE HV1 hz
          go_wp2_with fail
          go_round
          case rel => exact ⟨y, 1, by omega, by omega, fun h => absurd h (by omega), rfl, rfl, HE'.out⟩
          case measure => simp [intOf]; omega
      · have hkp : (0 : Int) < (k : Int) := by omega
        have hkB : decide ((0 : Int) < (k : Int)) = true := decide_eq_true hkp
        clear hx0
        by_cases hxl : x < 144115188075855871
        · obtain ⟨y, hy⟩ : ∃ y : Nat, (y : Int) = z % 128 := ⟨(z % 128).toNat, by omega⟩
          have e1 : bits .and .u8 z 127 = (y : Int) := by rw [and127 z (by omega) (by omega), hy]
          have e3 : bits .or .u64 (((x : Int) + 1) * 128) (y : Int) = ((x : Int) + 1) * 128 + (y : Int) := or_u64 _ y (by omega) (by omega) (by omega) (by omega) (by omega)
          have e2 := and128 z (by omega) (by omega)
          have hy2 : y < 128 := by omega
          have HY : Hid ((y : Int) = z % 128) := hy
          have ht : decide ((144115188075855871 : Int) ≤ (x : Int)) = false := decide_eq_false (by omega)
          have hs : ¬ (0 < k ∧ Plain.lim ≤ x) := by unfold Plain.lim; omega
          have HXL : Hid (x < 144115188075855871) := hxl
          clear hy
          by_cases hz : z < 128
          · rw [decide_eq_true hz] at e2
            have HE := Plain.vr_end (b := z) (r := zs.drop (k + 1)) hs hz
            rw [HV1.out] at HE
            have HE' : Hid (Plain.vr 0 0 zs = ((x + 1) * 128 + y, k + 1)) := by
              show _ = _
              rw [HE, if_pos (by omega), ← HY.out]; simp
            clear HE HV1 hz hs
            go_wp2_with fail
            go_ret2
            exact ⟨by rw [HE'.out]; show _ = Ending.returned (.tuple #[.int .u64 (((x + 1) * 128 + y : Nat) : Int), .int .i64 ((k + 1 : Nat) : Int)]); rw [Int.natCast_add, Int.natCast_mul, Int.natCast_add]; rfl, rfl⟩
          · rw [decide_eq_false hz] at e2
            have HE := Plain.vr_more (b := z) (r := zs.drop (k + 1)) hs hz
            rw [HV1.out] at HE
            have HE' : Hid (Plain.vr ((x + 1) * 128 + y) (k + 1) (zs.drop (k + 1)) = Plain.vr 0 0 zs) := by
              show _ = _
              rw [HE, if_pos (by omega), ← HY.out]; simp
            clear HE HV1 hz hs
            go_wp2_with fail
            go_round
            case rel => exact ⟨(x + 1) * 128 + y, k + 1, by omega, by have := HXL.out; omega, fun h => absurd h (by omega), by go_num, by go_num, HE'.out⟩
            case measure => simp [intOf]; omega
        · have ht : decide ((144115188075855871 : Int) ≤ (x : Int)) = true := decide_eq_true (by omega)
          have HE := Plain.vr_stop (b := z) (r := zs.drop (k + 1)) (⟨by omega, by unfold Plain.lim; omega⟩ : 0 < k ∧ Plain.lim ≤ x)
          rw [HV1.out] at HE
          have HE' : Hid (Plain.vr 0 0 zs = (0, 0)) := HE
          clear HE HV1 hxl
          go_wp2_with fail
          go_ret2
          exact ⟨by rw [HE'.out]; rfl, rfl⟩
    · have hv := HV.out
      rw [List.drop_of_length_le (by rw [HN.out]; omega)] at hv
      have HE' : Hid (Plain.vr 0 0 zs = (0, 0)) := by show _ = _; rw [← hv]; simp [Plain.vr]
      clear hv HV
      go_wp2_with fail
      go_ret2
      exact ⟨by rw [HE'.out]; rfl, rfl⟩

/-- A byte slice that came in: where it holds a byte, an address, and the bytes lie there. -/
def Tl (w : World) (a : Option Addr) (tl : List Int) : Prop :=
  ∀ k, k < tl.length → ∃ b o, a = some ⟨b, o, none⟩ ∧ b < w.heap.size ∧ ∀ i, i < tl.length → w.cell? ⟨b, o + i, none⟩ = some (.int .u8 (tl.getD i 0))

theorem Tl.later {w w' : World} {B : Nat} {a : Option Addr} {tl : List Int} (h : Tl w a tl) (hB : w.heap.size = B) (hb : Below B w w') : Tl w' a tl := by
  intro k hk
  obtain ⟨b, o, h1, h2, h3⟩ := h k hk
  have := hb.size
  exact ⟨b, o, h1, by omega, fun i hi => (hb.cell (p := ⟨b, o + i, none⟩) (by show b < B; omega)).trans (h3 i hi)⟩

def NulSaid (e : Ending) (zs : List Int) : Prop := e = .returned (.bool true) ∨ (e = .returned (.bool false) ∧ ∀ x ∈ zs, x ≠ 0)

set_option maxHeartbeats 400000 in
theorem hasNul_any (a : Option Addr) (n c : Nat) (zs : List Int) (w : World) (hn : zs.length = n) (hmax : n ≤ 1073741824) (h : Tl w a zs) :
    Calls Try.prog 21 #[.slice a n c] w fun e w' => NulSaid e zs ∧ w' = w := by
  have HN : Hid (zs.length = n) := hn
  have HT : Hid (Tl w a zs) := h
  clear hn h
  go_enter Try.func21, Try.ntmps21
  go_wp2_with fail
  go_loop [3] (fun u => ∃ k : Nat, k ≤ n ∧ u = .int .i64 k ∧ Hid (∀ i, i < k → zs.getD i 0 ≠ 0)) (fun u => n - (intOf u).toNat)
  case atStart => exact ⟨0, by omega, rfl, fun i hi => by omega⟩
  case round =>
    obtain ⟨k, hk, rfl, HZ⟩ := hrel
    by_cases hlt : k < n
    · obtain ⟨b, o, rfl, _, hc⟩ := HT.out k (by rw [HN.out]; exact hlt)
      have hcell := hc k (by rw [HN.out]; exact hlt)
      obtain ⟨z, hz⟩ : ∃ z, z = zs.getD k 0 := ⟨_, rfl⟩
      rw [← hz] at hcell
      have HE : Hid (z = zs.getD k 0) := hz
      clear hz hc
      by_cases h0 : z = 0
      · subst h0
        go_wp2_with fail
        go_ret
        exact ⟨.inl rfl, rfl⟩
      · have h0' : (z == 0) = false := by simp; exact h0
        go_wp2_with fail
        go_round
        case rel => exact ⟨k + 1, by omega, by go_num, fun i hi => by
          rcases Nat.lt_or_ge i k with g | g
          · exact HZ.out i g
          · have : i = k := by omega
            rw [this, ← HE.out]; exact h0⟩
        case measure => simp [intOf]; omega
    · go_wp2_with fail
      go_ret
      refine ⟨.inr ⟨rfl, fun x hx => ?_⟩, rfl⟩
      obtain ⟨i, hi, rfl⟩ := List.getElem_of_mem hx
      have := HZ.out i (by have := HN.out; omega)
      rw [List.getD_eq_getElem?_getD, List.getElem?_eq_getElem hi] at this
      exact this

theorem bytesOf_get (zs : List Int) (k : Nat) (hk : k < zs.length) : (Lib.bytesOf zs)[k]? = some (UInt8.ofNat (zs.getD k 0).toNat) := by
  unfold Lib.bytesOf
  rw [List.getElem?_map, List.getElem?_eq_getElem hk, List.getD_eq_getElem?_getD, List.getElem?_eq_getElem hk]
  rfl

/-- bytes.IndexByte at NUL, in plain words. -/
theorem indexByte_fz : ∀ (zs : List Int), (∀ x ∈ zs, 0 ≤ x ∧ x ≤ 255) → Lib.indexByte (Lib.bytesOf zs) 0 = match Plain.fz zs with | none => -1 | some i => (i : Int)
  | [], _ => rfl
  | b :: r, h => by
    have hb := h b (by simp)
    have ih := indexByte_fz r fun x hx => h x (by simp [hx])
    show Lib.indexByte (UInt8.ofNat b.toNat :: Lib.bytesOf r) 0 = _
    rw [Lib.indexByte, ih, Plain.fz]
    by_cases h0 : b = 0
    · subst h0; rfl
    · have hne : (UInt8.ofNat b.toNat == 0) = false := by
        rw [beq_eq_false_iff_ne]
        intro e
        have := congrArg UInt8.toNat e
        simp at this
        omega
      rw [hne, if_neg h0]
      cases Plain.fz r with
      | none => rfl
      | some i =>
        have : ((i : Int) == -1) = false := by rw [beq_eq_false_iff_ne]; omega
        simp [this]

def fzI (zs : List Int) : Int := match Plain.fz zs with | none => -1 | some i => (i : Int)
theorem mem_bytes {zs : List Int} (h : ∀ i, 0 ≤ zs.getD i 0 ∧ zs.getD i 0 ≤ 255) : ∀ x ∈ zs, 0 ≤ x ∧ x ≤ 255 := by
  intro x hx
  obtain ⟨i, hi, rfl⟩ := List.getElem_of_mem hx
  have := h i
  rw [List.getD_eq_getElem?_getD, List.getElem?_eq_getElem hi] at this
  exact this
theorem indexByte_any (b o n c : Nat) (zs : List Int) (w : World) (hn : zs.length = n) (h : Txt w b o zs) :
    Calls Try.prog 32 #[.slice (some ⟨b, o, none⟩) n c, .int .u8 0] w fun e w' => e = .returned (.int .i64 (fzI zs)) ∧ w' = w := by
  refine (Try.bytes_IndexByte b o n c zs 0 w hn (fun i hi => h.1 i (by omega))).mono ?_
  rintro e w' ⟨rfl, rfl⟩
  refine ⟨ret_int ?_, rfl⟩
  exact indexByte_fz zs (mem_bytes h.2)

end Go.Proofs.Qxb6001092a
