/-
  THE WALKS of (ReferenceKind).read, kind by kind.
-/
import Derived.Test.Qxb6000823aLib
import Derived.LoopN
namespace Go.Proofs.Qxb6000823a
open Go.RowKit

theorem cell0 {w : World} {v : Value} (hm : w.cell? ⟨0, 0, none⟩ = some v) (a b : Obj) : ((w.alloc a).alloc b).cell? ⟨0, 0, none⟩ = some v :=
  cell_later (w := w) (wx := (w.alloc a).alloc b) (((Below.refl _ w).alloc (Nat.le_refl _) a).alloc (by simp) b) hm

theorem below_end (w : World) (a b : Obj) (n : Nat) : Below w.heap.size w (((w.alloc a).alloc b).drewN n) :=
  below_drewN (((Below.refl _ w).alloc (Nat.le_refl _) a).alloc (by simp) b) n

set_option maxRecDepth 100000 in
set_option maxHeartbeats 2000000 in
theorem read1 (T : ByteArray) (n : ByteArray) (m : Int) (w : World) (hT : T.data.toList = [105, 110, 112, 117, 116, 115, 46, 112, 97, 114, 97, 109, 101, 116, 101, 114, 115, 46] ++ n.data.toList) (hsn : n.size ≤ 1048576) (hen : n.toList.isEmpty = false) (hm : w.cell? ⟨0, 0, none⟩ = some (.int .i64 m)) :
    Calls Try.prog 20 #[.string ⟨#[105, 110, 112, 117, 116, 115, 46, 112, 97, 114, 97, 109, 101, 116, 101, 114, 115, 46, 60, 110, 97, 109, 101, 62]⟩, .string T] w fun e w' => e = .returned (.tuple #[.agg #[.string ⟨#[105, 110, 112, 117, 116, 115, 46, 112, 97, 114, 97, 109, 101, 116, 101, 114, 115, 46, 60, 110, 97, 109, 101, 62]⟩, .string ⟨#[]⟩, .string n], .bool true]) ∧ Below w.heap.size w w' := by
  have HA := fun wx => align_same ⟨#[105, 110, 112, 117, 116, 115, 46, 112, 97, 114, 97, 109, 101, 116, 101, 114, 115, 46, 60, 110, 97, 109, 101, 62]⟩ T wx (.inr (by decide))
  have HT : Hid (T.data.toList = [105, 110, 112, 117, 116, 115, 46, 112, 97, 114, 97, 109, 101, 116, 101, 114, 115, 46] ++ n.data.toList) := hT
  clear hT
  have sd : ∀ (W : World) (j : Nat) (x : Addr) (v : Value), (W.drewN j).setCell x v = (W.setCell x v).drewN j := fun _ _ _ _ => rfl
  have x1_0_18_24 : (⟨#[105, 110, 112, 117, 116, 115, 46, 112, 97, 114, 97, 109, 101, 116, 101, 114, 115, 46, 60, 110, 97, 109, 101, 62]⟩ : ByteArray).extract 0 18 = ⟨#[105, 110, 112, 117, 116, 115, 46, 112, 97, 114, 97, 109, 101, 116, 101, 114, 115, 46]⟩ := by decide
  have x1_18_24_24 : (⟨#[105, 110, 112, 117, 116, 115, 46, 112, 97, 114, 97, 109, 101, 116, 101, 114, 115, 46, 60, 110, 97, 109, 101, 62]⟩ : ByteArray).extract 18 24 = ⟨#[60, 110, 97, 109, 101, 62]⟩ := by decide
  have x1_24_24_24 : (⟨#[105, 110, 112, 117, 116, 115, 46, 112, 97, 114, 97, 109, 101, 116, 101, 114, 115, 46, 60, 110, 97, 109, 101, 62]⟩ : ByteArray).extract 24 24 = ⟨#[]⟩ := by decide
  go_enter Try.func20, Try.ntmps20
  go_wp2_with fail
  refine (HA _).mono ?_
  rintro e w1 ⟨rfl, hw1⟩
  subst hw1
  clear HA
  go_wp2_with fail
  refine wp_loop_rounds 2 ?_
  rw [rounds_succ]
  go_wp2_with fail
  refine (indexByte_is ⟨#[105, 110, 112, 117, 116, 115, 46, 112, 97, 114, 97, 109, 101, 116, 101, 114, 115, 46, 60, 110, 97, 109, 101, 62]⟩ 60 18 _ (by decide)).mono ?_
  rintro e w1 ⟨rfl, hw1⟩
  subst hw1
  go_wp2_with fail
  refine (cutPrefix_at T ⟨#[105, 110, 112, 117, 116, 115, 46, 112, 97, 114, 97, 109, 101, 116, 101, 114, 115, 46]⟩ n _ (by rw [HT.out]; try rfl)).mono ?_
  rintro e w1 ⟨rfl, hw1⟩
  subst hw1
  go_wp2_with fail
  refine (indexByte_is ⟨#[60, 110, 97, 109, 101, 62]⟩ 62 5 _ (by decide)).mono ?_
  rintro e w1 ⟨rfl, hw1⟩
  subst hw1
  go_wp2_with fail
  refine (cut_miss ⟨#[]⟩ ⟨#[60]⟩ m _ (by decide) (by exact cell0 hm _ _) (by decide)).mono ?_
  rintro e w1 ⟨rfl, d3, hw1⟩
  subst hw1
  go_wp2_with fail
  refine (cutSuffix_at n ⟨#[]⟩ n _ (by omega) (by simp)).mono ?_
  rintro e w1 ⟨rfl, hw1⟩
  subst hw1
  go_wp2_with fail
  rw [rounds_succ]
  go_wp2_with fail
  refine (indexByte_is ⟨#[]⟩ 60 (-1) _ (by decide)).mono ?_
  rintro e w1 ⟨rfl, hw1⟩
  subst hw1
  go_wp2_with fail
  exact bodyPost_ret (v := .tuple #[.agg #[.string ⟨#[105, 110, 112, 117, 116, 115, 46, 112, 97, 114, 97, 109, 101, 116, 101, 114, 115, 46, 60, 110, 97, 109, 101, 62]⟩, .string ⟨#[]⟩, .string n], .bool true]) (by simp [results, Try.results20, go_sem]) rfl ⟨rfl, below_end _ _ _ _⟩

set_option maxRecDepth 100000 in
set_option maxHeartbeats 2000000 in
theorem read2 (T : ByteArray) (n : ByteArray) (m : Int) (w : World) (hT : T.data.toList = [108, 111, 111, 112, 95, 105, 116, 101, 114, 46] ++ n.data.toList) (hsn : n.size ≤ 1048576) (hen : n.toList.isEmpty = false) (hm : w.cell? ⟨0, 0, none⟩ = some (.int .i64 m)) :
    Calls Try.prog 20 #[.string ⟨#[108, 111, 111, 112, 95, 105, 116, 101, 114, 46, 60, 110, 97, 109, 101, 62]⟩, .string T] w fun e w' => e = .returned (.tuple #[.agg #[.string ⟨#[108, 111, 111, 112, 95, 105, 116, 101, 114, 46, 60, 110, 97, 109, 101, 62]⟩, .string ⟨#[]⟩, .string n], .bool true]) ∧ Below w.heap.size w w' := by
  have HA := fun wx => align_same ⟨#[108, 111, 111, 112, 95, 105, 116, 101, 114, 46, 60, 110, 97, 109, 101, 62]⟩ T wx (.inl (by rw [hT]; rfl))
  have HT : Hid (T.data.toList = [108, 111, 111, 112, 95, 105, 116, 101, 114, 46] ++ n.data.toList) := hT
  clear hT
  have sd : ∀ (W : World) (j : Nat) (x : Addr) (v : Value), (W.drewN j).setCell x v = (W.setCell x v).drewN j := fun _ _ _ _ => rfl
  have x1_0_10_16 : (⟨#[108, 111, 111, 112, 95, 105, 116, 101, 114, 46, 60, 110, 97, 109, 101, 62]⟩ : ByteArray).extract 0 10 = ⟨#[108, 111, 111, 112, 95, 105, 116, 101, 114, 46]⟩ := by decide
  have x1_10_16_16 : (⟨#[108, 111, 111, 112, 95, 105, 116, 101, 114, 46, 60, 110, 97, 109, 101, 62]⟩ : ByteArray).extract 10 16 = ⟨#[60, 110, 97, 109, 101, 62]⟩ := by decide
  have x1_16_16_16 : (⟨#[108, 111, 111, 112, 95, 105, 116, 101, 114, 46, 60, 110, 97, 109, 101, 62]⟩ : ByteArray).extract 16 16 = ⟨#[]⟩ := by decide
  go_enter Try.func20, Try.ntmps20
  go_wp2_with fail
  refine (HA _).mono ?_
  rintro e w1 ⟨rfl, hw1⟩
  subst hw1
  clear HA
  go_wp2_with fail
  refine wp_loop_rounds 2 ?_
  rw [rounds_succ]
  go_wp2_with fail
  refine (indexByte_is ⟨#[108, 111, 111, 112, 95, 105, 116, 101, 114, 46, 60, 110, 97, 109, 101, 62]⟩ 60 10 _ (by decide)).mono ?_
  rintro e w1 ⟨rfl, hw1⟩
  subst hw1
  go_wp2_with fail
  refine (cutPrefix_at T ⟨#[108, 111, 111, 112, 95, 105, 116, 101, 114, 46]⟩ n _ (by rw [HT.out]; try rfl)).mono ?_
  rintro e w1 ⟨rfl, hw1⟩
  subst hw1
  go_wp2_with fail
  refine (indexByte_is ⟨#[60, 110, 97, 109, 101, 62]⟩ 62 5 _ (by decide)).mono ?_
  rintro e w1 ⟨rfl, hw1⟩
  subst hw1
  go_wp2_with fail
  refine (cut_miss ⟨#[]⟩ ⟨#[60]⟩ m _ (by decide) (by exact cell0 hm _ _) (by decide)).mono ?_
  rintro e w1 ⟨rfl, d3, hw1⟩
  subst hw1
  go_wp2_with fail
  refine (cutSuffix_at n ⟨#[]⟩ n _ (by omega) (by simp)).mono ?_
  rintro e w1 ⟨rfl, hw1⟩
  subst hw1
  go_wp2_with fail
  rw [rounds_succ]
  go_wp2_with fail
  refine (indexByte_is ⟨#[]⟩ 60 (-1) _ (by decide)).mono ?_
  rintro e w1 ⟨rfl, hw1⟩
  subst hw1
  go_wp2_with fail
  exact bodyPost_ret (v := .tuple #[.agg #[.string ⟨#[108, 111, 111, 112, 95, 105, 116, 101, 114, 46, 60, 110, 97, 109, 101, 62]⟩, .string ⟨#[]⟩, .string n], .bool true]) (by simp [results, Try.results20, go_sem]) rfl ⟨rfl, below_end _ _ _ _⟩

set_option maxRecDepth 100000 in
set_option maxHeartbeats 2000000 in
theorem reada (T : ByteArray) (n : ByteArray) (m : Int) (w : World) (hT : T.data.toList = [105, 116, 101, 114, 97, 116, 111, 114, 46] ++ n.data.toList) (hsn : n.size ≤ 1048576) (hen : n.toList.isEmpty = false) (hm : w.cell? ⟨0, 0, none⟩ = some (.int .i64 m)) :
    Calls Try.prog 20 #[.string ⟨#[108, 111, 111, 112, 95, 105, 116, 101, 114, 46, 60, 110, 97, 109, 101, 62]⟩, .string T] w fun e w' => e = .returned (.tuple #[.agg #[.string ⟨#[108, 111, 111, 112, 95, 105, 116, 101, 114, 46, 60, 110, 97, 109, 101, 62]⟩, .string ⟨#[]⟩, .string n], .bool true]) ∧ Below w.heap.size w w' := by
  have HA := fun wx => align_alias T n.data.toList wx hT
  rw [list_bs] at HA
  have HT : Hid (T.data.toList = [105, 116, 101, 114, 97, 116, 111, 114, 46] ++ n.data.toList) := hT
  clear hT
  have sd : ∀ (W : World) (j : Nat) (x : Addr) (v : Value), (W.drewN j).setCell x v = (W.setCell x v).drewN j := fun _ _ _ _ => rfl
  have x1_0_0_6 : (⟨#[60, 110, 97, 109, 101, 62]⟩ : ByteArray).extract 0 0 = ⟨#[]⟩ := by decide
  have x1_0_6_6 : (⟨#[60, 110, 97, 109, 101, 62]⟩ : ByteArray).extract 0 6 = ⟨#[60, 110, 97, 109, 101, 62]⟩ := by decide
  have x1_6_6_6 : (⟨#[60, 110, 97, 109, 101, 62]⟩ : ByteArray).extract 6 6 = ⟨#[]⟩ := by decide
  go_enter Try.func20, Try.ntmps20
  go_wp2_with fail
  refine (HA _).mono ?_
  rintro e w1 ⟨rfl, hw1⟩
  subst hw1
  clear HA
  go_wp2_with fail
  refine wp_loop_rounds 2 ?_
  rw [rounds_succ]
  go_wp2_with fail
  refine (indexByte_is ⟨#[60, 110, 97, 109, 101, 62]⟩ 60 0 _ (by decide)).mono ?_
  rintro e w1 ⟨rfl, hw1⟩
  subst hw1
  go_wp2_with fail
  refine (cutPrefix_at n ⟨#[]⟩ n _ (by rfl)).mono ?_
  rintro e w1 ⟨rfl, hw1⟩
  subst hw1
  go_wp2_with fail
  refine (indexByte_is ⟨#[60, 110, 97, 109, 101, 62]⟩ 62 5 _ (by decide)).mono ?_
  rintro e w1 ⟨rfl, hw1⟩
  subst hw1
  go_wp2_with fail
  refine (cut_miss ⟨#[]⟩ ⟨#[60]⟩ m _ (by decide) (by exact cell0 hm _ _) (by decide)).mono ?_
  rintro e w1 ⟨rfl, d3, hw1⟩
  subst hw1
  go_wp2_with fail
  refine (cutSuffix_at n ⟨#[]⟩ n _ (by omega) (by simp)).mono ?_
  rintro e w1 ⟨rfl, hw1⟩
  subst hw1
  go_wp2_with fail
  rw [rounds_succ]
  go_wp2_with fail
  refine (indexByte_is ⟨#[]⟩ 60 (-1) _ (by decide)).mono ?_
  rintro e w1 ⟨rfl, hw1⟩
  subst hw1
  go_wp2_with fail
  exact bodyPost_ret (v := .tuple #[.agg #[.string ⟨#[108, 111, 111, 112, 95, 105, 116, 101, 114, 46, 60, 110, 97, 109, 101, 62]⟩, .string ⟨#[]⟩, .string n], .bool true]) (by simp [results, Try.results20, go_sem]) rfl ⟨rfl, below_end _ _ _ _⟩

set_option maxRecDepth 100000 in
set_option maxHeartbeats 2000000 in
theorem read3 (T : ByteArray) (t : ByteArray) (m : Int) (w : World) (hT : T.data.toList = [116, 97, 115, 107, 115, 46] ++ (t.data.toList ++ [46, 112, 104, 97, 115, 101])) (hst : t.size ≤ 1048576) (het : t.toList.isEmpty = false) (hm : w.cell? ⟨0, 0, none⟩ = some (.int .i64 m)) :
    Calls Try.prog 20 #[.string ⟨#[116, 97, 115, 107, 115, 46, 60, 116, 97, 115, 107, 62, 46, 112, 104, 97, 115, 101]⟩, .string T] w fun e w' => e = .returned (.tuple #[.agg #[.string ⟨#[116, 97, 115, 107, 115, 46, 60, 116, 97, 115, 107, 62, 46, 112, 104, 97, 115, 101]⟩, .string t, .string ⟨#[]⟩], .bool true]) ∧ Below w.heap.size w w' := by
  have HA := fun wx => align_same ⟨#[116, 97, 115, 107, 115, 46, 60, 116, 97, 115, 107, 62, 46, 112, 104, 97, 115, 101]⟩ T wx (.inr (by decide))
  have HT : Hid (T.data.toList = [116, 97, 115, 107, 115, 46] ++ (t.data.toList ++ [46, 112, 104, 97, 115, 101])) := hT
  clear hT
  have sd : ∀ (W : World) (j : Nat) (x : Addr) (v : Value), (W.drewN j).setCell x v = (W.setCell x v).drewN j := fun _ _ _ _ => rfl
  obtain ⟨R, hR⟩ : ∃ R : ByteArray, R.data.toList = t.data.toList ++ [46, 112, 104, 97, 115, 101] := ⟨bs _, bs_list _⟩
  have hRb2 : R.size ≤ 9223372036854775807 := by rw [size_list R, hR]; have := size_list t; simp; omega
  have HR : Hid (R.data.toList = t.data.toList ++ [46, 112, 104, 97, 115, 101]) := hR
  clear hR
  have x1_0_6_18 : (⟨#[116, 97, 115, 107, 115, 46, 60, 116, 97, 115, 107, 62, 46, 112, 104, 97, 115, 101]⟩ : ByteArray).extract 0 6 = ⟨#[116, 97, 115, 107, 115, 46]⟩ := by decide
  have x1_6_18_18 : (⟨#[116, 97, 115, 107, 115, 46, 60, 116, 97, 115, 107, 62, 46, 112, 104, 97, 115, 101]⟩ : ByteArray).extract 6 18 = ⟨#[60, 116, 97, 115, 107, 62, 46, 112, 104, 97, 115, 101]⟩ := by decide
  have x1_6_12_18 : (⟨#[116, 97, 115, 107, 115, 46, 60, 116, 97, 115, 107, 62, 46, 112, 104, 97, 115, 101]⟩ : ByteArray).extract 6 12 = ⟨#[60, 116, 97, 115, 107, 62]⟩ := by decide
  have x1_12_18_18 : (⟨#[116, 97, 115, 107, 115, 46, 60, 116, 97, 115, 107, 62, 46, 112, 104, 97, 115, 101]⟩ : ByteArray).extract 12 18 = ⟨#[46, 112, 104, 97, 115, 101]⟩ := by decide
  go_enter Try.func20, Try.ntmps20
  go_wp2_with fail
  refine (HA _).mono ?_
  rintro e w1 ⟨rfl, hw1⟩
  subst hw1
  clear HA
  go_wp2_with fail
  refine wp_loop_rounds 2 ?_
  rw [rounds_succ]
  go_wp2_with fail
  refine (indexByte_is ⟨#[116, 97, 115, 107, 115, 46, 60, 116, 97, 115, 107, 62, 46, 112, 104, 97, 115, 101]⟩ 60 6 _ (by decide)).mono ?_
  rintro e w1 ⟨rfl, hw1⟩
  subst hw1
  go_wp2_with fail
  refine (cutPrefix_at T ⟨#[116, 97, 115, 107, 115, 46]⟩ R _ (by rw [HT.out, HR.out]; try rfl)).mono ?_
  rintro e w1 ⟨rfl, hw1⟩
  subst hw1
  go_wp2_with fail
  refine (indexByte_is ⟨#[60, 116, 97, 115, 107, 62, 46, 112, 104, 97, 115, 101]⟩ 62 5 _ (by decide)).mono ?_
  rintro e w1 ⟨rfl, hw1⟩
  subst hw1
  go_wp2_with fail
  refine (cut_miss ⟨#[46, 112, 104, 97, 115, 101]⟩ ⟨#[60]⟩ m _ (by decide) (by exact cell0 hm _ _) (by decide)).mono ?_
  rintro e w1 ⟨rfl, d3, hw1⟩
  subst hw1
  go_wp2_with fail
  refine (cutSuffix_at R ⟨#[46, 112, 104, 97, 115, 101]⟩ t _ (hRb2) (by rw [HR.out])).mono ?_
  rintro e w1 ⟨rfl, hw1⟩
  subst hw1
  go_wp2_with fail
  rw [rounds_succ]
  go_wp2_with fail
  refine (indexByte_is ⟨#[46, 112, 104, 97, 115, 101]⟩ 60 (-1) _ (by decide)).mono ?_
  rintro e w1 ⟨rfl, hw1⟩
  subst hw1
  go_wp2_with fail
  exact bodyPost_ret (v := .tuple #[.agg #[.string ⟨#[116, 97, 115, 107, 115, 46, 60, 116, 97, 115, 107, 62, 46, 112, 104, 97, 115, 101]⟩, .string t, .string ⟨#[]⟩], .bool true]) (by simp [results, Try.results20, go_sem]) rfl ⟨rfl, below_end _ _ _ _⟩

end Go.Proofs.Qxb6000823a
