/-
  THE WALKS of indexOf, ZZRead, zzBytes.
-/
import Derived.Test.Qxb6000823aRead2
namespace Go.Proofs.Qxb6000823a
open Go.RowKit

theorem bcell {W w1 : World} (hb : Below W.heap.size W w1) : (∀ b o, b < W.heap.size → w1.cell? ⟨b, o, none⟩ = W.cell? ⟨b, o, none⟩) ∧ (∀ b o, b < W.heap.size → w1.frozen? ⟨b, o, none⟩ = W.frozen? ⟨b, o, none⟩) :=
  ⟨fun b o h => hb.cell (p := ⟨b, o, none⟩) h, fun b o h => hb.frozen (p := ⟨b, o, none⟩) h⟩

def FirstAt (e : Ending) (s p : List UInt8) : Prop := ∃ r : Int, e = .returned (.int .i64 r) ∧ ∀ k : Nat, r = k → Lib.NoOcc s p k

set_option maxHeartbeats 400000 in
theorem indexOf_any (s p : ByteArray) (w : World) (hs : s.size ≤ 2097152) (hp : p.size ≤ 2097152) :
    Calls Try.prog 14 #[.string s, .string p] w fun e w' => FirstAt e s.data.toList p.data.toList ∧ w' = w := by
  go_enter Try.func14, Try.ntmps14
  go_wp2_with fail
  go_loop [5] (fun u => ∃ k : Nat, k ≤ s.size + 1 ∧ u = .int .i64 k ∧ Hid (Lib.NoOcc s.data.toList p.data.toList k)) (fun u => s.size + 1 - (intOf u).toNat)
  case atStart => exact ⟨0, by omega, rfl, Lib.NoOcc.zero _ _⟩
  case round =>
    obtain ⟨k, hk, rfl, HN⟩ := hrel
    by_cases hlt : k + p.size ≤ s.size
    · by_cases hq : ((s.extract k (k + p.size)).toList == p.toList) = true
      · go_wp2_with fail
        go_ret
        exact ⟨⟨k, rfl, fun j hj => by have : k = j := by omega
                                       subst this; exact HN.out⟩, rfl⟩
      · have hq' : ((s.extract k (k + p.size)).toList == p.toList) = false := by simpa using hq
        have hoc : Lib.occAt s.data.toList p.data.toList k = false := by
          rw [Lib.occAt_iff_take _ _ _ (by rw [← Lib.size_eq, ← Lib.size_eq]; exact hlt), ← hq', Lib.extract_toList, Lib.toList_data, Lib.size_eq p]
          congr 2
          omega
        have HO : Hid (Lib.occAt s.data.toList p.data.toList k = false) := hoc
        clear hq hoc
        go_wp2_with fail
        go_round
        case rel => exact ⟨k + 1, by omega, by go_num, HN.out.succ HO.out⟩
        case measure => simp [intOf]; omega
    · go_wp2_with fail
      go_ret
      exact ⟨⟨-1, rfl, fun j hj => by omega⟩, rfl⟩

def SomeBool (e : Ending) : Prop := ∃ r : Bool, e = .returned (.bool r)
theorem SomeBool.no : SomeBool (.returned (.bool false)) := ⟨_, rfl⟩
theorem SomeBool.yes : SomeBool (.returned (.bool true)) := ⟨_, rfl⟩

set_option maxHeartbeats 400000 in
theorem zzBytes_any (x : Int) (t n : ByteArray) (w : World) (ht : t.size ≤ 9223372036854775807) (hn : n.size ≤ 9223372036854775807) :
    Calls Try.prog 10 #[.int .u8 x, .string t, .string n] w fun e w' => SomeBool e ∧ w' = w := by
  by_cases h1 : t.size ≤ 1048576
  · by_cases h2 : n.size ≤ 1048576
    · by_cases h3 : t.size + n.size ≤ 1048576
      all_goals
        go_enter Try.func10, Try.ntmps10
        go_wp2
        go_ret
        exact ⟨by first | exact SomeBool.no | exact SomeBool.yes, rfl⟩
    · go_enter Try.func10, Try.ntmps10
      go_wp2
      go_ret
      exact ⟨by first | exact SomeBool.no | exact SomeBool.yes, rfl⟩
  · go_enter Try.func10, Try.ntmps10
    go_wp2
    go_ret
    exact ⟨by first | exact SomeBool.no | exact SomeBool.yes, rfl⟩

set_option maxHeartbeats 400000 in
theorem zzRead_of (k T a b c : ByteArray) (m : Int) (w : World) (hm : w.cell? ⟨0, 0, none⟩ = some (.int .i64 m))
    (H : ∀ wx : World, wx.cell? ⟨0, 0, none⟩ = some (.int .i64 m) → Calls Try.prog 20 #[.string k, .string T] wx fun e w' => e = .returned (.tuple #[.agg #[.string a, .string b, .string c], .bool true]) ∧ Below wx.heap.size wx w') :
    Calls Try.prog 16 #[.string k, .string T] w fun e w' => e = .returned (.tuple #[.agg #[.string a, .string b, .string c], .bool true]) ∧ Below w.heap.size w w' := by
  have HH : ∀ o, Calls Try.prog 20 #[.string k, .string T] (w.alloc o) fun e w' => e = .returned (.tuple #[.agg #[.string a, .string b, .string c], .bool true]) ∧ Below (w.alloc o).heap.size (w.alloc o) w' :=
    fun o => H _ (cell_later (w := w) ((Below.refl _ w).alloc (Nat.le_refl _) o) hm)
  clear H
  go_enter Try.func16, Try.ntmps16
  go_wp2_with fail
  refine (HH _).mono ?_
  rintro e w1 ⟨rfl, hb⟩
  obtain ⟨hc, hf⟩ := bcell hb
  have hz : w.heap.size < w1.heap.size := by have := hb.size; simp at this; omega
  have q0 := hc w.heap.size 0 (by simp)
  have q1 := hc w.heap.size 1 (by simp)
  have q2 := hc w.heap.size 2 (by simp)
  have f0 := hf w.heap.size 0 (by simp)
  have f1 := hf w.heap.size 1 (by simp)
  have f2 := hf w.heap.size 2 (by simp)
  have HB : Hid (Below w.heap.size w w1) := ((Below.refl _ w).alloc (Nat.le_refl _) _).trans (hb.mono (by simp))
  clear hc hf HH hb
  simp at q0 q1 q2 f0 f1 f2
  go_wp2_with fail
  exact bodyPost_ret (v := .tuple #[.agg #[.string a, .string b, .string c], .bool true]) (by simp [results, Try.results16, go_sem, q0, q1, q2]) rfl ⟨rfl, ((HB.out.setCell (Nat.le_refl _) _).setCell (Nat.le_refl _) _).setCell (Nat.le_refl _) _⟩

end Go.Proofs.Qxb6000823a
