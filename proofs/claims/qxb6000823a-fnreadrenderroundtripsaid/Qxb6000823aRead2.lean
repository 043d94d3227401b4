/-
  THE WALKS of (ReferenceKind).read, kind by kind.
-/
import Derived.Test.Qxb6000823aRead
import Derived.LoopN
namespace Go.Proofs.Qxb6000823a
open Go.RowKit


set_option maxRecDepth 100000 in
set_option maxHeartbeats 2000000 in
theorem read0 (T : ByteArray) (t : ByteArray) (n : ByteArray) (m : Int) (w : World) (hT : T.data.toList = [116, 97, 115, 107, 115, 46] ++ (t.data.toList ++ ([46, 111, 117, 116, 112, 117, 116, 115, 46, 112, 97, 114, 97, 109, 101, 116, 101, 114, 115, 46] ++ n.data.toList))) (hst : t.size ≤ 1048576) (het : t.toList.isEmpty = false) (hsn : n.size ≤ 1048576) (hen : n.toList.isEmpty = false) (hno : Lib.NoOcc (t.data.toList ++ ([46, 111, 117, 116, 112, 117, 116, 115, 46, 112, 97, 114, 97, 109, 101, 116, 101, 114, 115, 46] ++ n.data.toList)) [46, 111, 117, 116, 112, 117, 116, 115, 46, 112, 97, 114, 97, 109, 101, 116, 101, 114, 115, 46] t.data.toList.length) (hm : w.cell? ⟨0, 0, none⟩ = some (.int .i64 m)) :
    Calls Try.prog 20 #[.string ⟨#[116, 97, 115, 107, 115, 46, 60, 116, 97, 115, 107, 62, 46, 111, 117, 116, 112, 117, 116, 115, 46, 112, 97, 114, 97, 109, 101, 116, 101, 114, 115, 46, 60, 110, 97, 109, 101, 62]⟩, .string T] w fun e w' => e = .returned (.tuple #[.agg #[.string ⟨#[116, 97, 115, 107, 115, 46, 60, 116, 97, 115, 107, 62, 46, 111, 117, 116, 112, 117, 116, 115, 46, 112, 97, 114, 97, 109, 101, 116, 101, 114, 115, 46, 60, 110, 97, 109, 101, 62]⟩, .string t, .string n], .bool true]) ∧ Below w.heap.size w w' := by
  have HA := fun wx => align_same ⟨#[116, 97, 115, 107, 115, 46, 60, 116, 97, 115, 107, 62, 46, 111, 117, 116, 112, 117, 116, 115, 46, 112, 97, 114, 97, 109, 101, 116, 101, 114, 115, 46, 60, 110, 97, 109, 101, 62]⟩ T wx (.inr (by decide))
  have HT : Hid (T.data.toList = [116, 97, 115, 107, 115, 46] ++ (t.data.toList ++ ([46, 111, 117, 116, 112, 117, 116, 115, 46, 112, 97, 114, 97, 109, 101, 116, 101, 114, 115, 46] ++ n.data.toList))) := hT
  have HNO : Hid (Lib.NoOcc (t.data.toList ++ ([46, 111, 117, 116, 112, 117, 116, 115, 46, 112, 97, 114, 97, 109, 101, 116, 101, 114, 115, 46] ++ n.data.toList)) [46, 111, 117, 116, 112, 117, 116, 115, 46, 112, 97, 114, 97, 109, 101, 116, 101, 114, 115, 46] t.data.toList.length) := hno
  clear hT hno
  have sd : ∀ (W : World) (j : Nat) (x : Addr) (v : Value), (W.drewN j).setCell x v = (W.setCell x v).drewN j := fun _ _ _ _ => rfl
  obtain ⟨N, hN⟩ : ∃ N : ByteArray, N.data.toList = [46, 111, 117, 116, 112, 117, 116, 115, 46, 112, 97, 114, 97, 109, 101, 116, 101, 114, 115, 46] ++ n.data.toList := ⟨bs _, bs_list _⟩
  obtain ⟨R, hR⟩ : ∃ R : ByteArray, R.data.toList = t.data.toList ++ N.data.toList := ⟨bs _, bs_list _⟩
  have hRs : R.size = t.size + (20 + n.size) := by rw [size_list R, size_list t, size_list n, hR, hN]; simp; omega
  have hRx : R.extract t.size R.size = N := by
    rw [← list_bs (R.extract t.size R.size), ← list_bs N]
    congr 1
    rw [Lib.extract_data, hR, size_list t, List.drop_left, List.take_of_length_le (by rw [size_list R, hR]; simp)]
  have HR : Hid (R.data.toList = t.data.toList ++ N.data.toList) := hR
  have HN : Hid (N.data.toList = [46, 111, 117, 116, 112, 117, 116, 115, 46, 112, 97, 114, 97, 109, 101, 116, 101, 114, 115, 46] ++ n.data.toList) := hN
  have hRb : t.size ≤ R.size := by omega
  have hRb2 : R.size < 4294967281 := by omega
  have HRS : Hid (R.size = t.size + (20 + n.size)) := hRs
  clear hR hN hRs
  have x1_0_6_38 : (⟨#[116, 97, 115, 107, 115, 46, 60, 116, 97, 115, 107, 62, 46, 111, 117, 116, 112, 117, 116, 115, 46, 112, 97, 114, 97, 109, 101, 116, 101, 114, 115, 46, 60, 110, 97, 109, 101, 62]⟩ : ByteArray).extract 0 6 = ⟨#[116, 97, 115, 107, 115, 46]⟩ := by decide
  have x1_6_38_38 : (⟨#[116, 97, 115, 107, 115, 46, 60, 116, 97, 115, 107, 62, 46, 111, 117, 116, 112, 117, 116, 115, 46, 112, 97, 114, 97, 109, 101, 116, 101, 114, 115, 46, 60, 110, 97, 109, 101, 62]⟩ : ByteArray).extract 6 38 = ⟨#[60, 116, 97, 115, 107, 62, 46, 111, 117, 116, 112, 117, 116, 115, 46, 112, 97, 114, 97, 109, 101, 116, 101, 114, 115, 46, 60, 110, 97, 109, 101, 62]⟩ := by decide
  have x1_6_12_38 : (⟨#[116, 97, 115, 107, 115, 46, 60, 116, 97, 115, 107, 62, 46, 111, 117, 116, 112, 117, 116, 115, 46, 112, 97, 114, 97, 109, 101, 116, 101, 114, 115, 46, 60, 110, 97, 109, 101, 62]⟩ : ByteArray).extract 6 12 = ⟨#[60, 116, 97, 115, 107, 62]⟩ := by decide
  have x1_12_38_38 : (⟨#[116, 97, 115, 107, 115, 46, 60, 116, 97, 115, 107, 62, 46, 111, 117, 116, 112, 117, 116, 115, 46, 112, 97, 114, 97, 109, 101, 116, 101, 114, 115, 46, 60, 110, 97, 109, 101, 62]⟩ : ByteArray).extract 12 38 = ⟨#[46, 111, 117, 116, 112, 117, 116, 115, 46, 112, 97, 114, 97, 109, 101, 116, 101, 114, 115, 46, 60, 110, 97, 109, 101, 62]⟩ := by decide
  have x1_0_20_26 : (⟨#[46, 111, 117, 116, 112, 117, 116, 115, 46, 112, 97, 114, 97, 109, 101, 116, 101, 114, 115, 46, 60, 110, 97, 109, 101, 62]⟩ : ByteArray).extract 0 20 = ⟨#[46, 111, 117, 116, 112, 117, 116, 115, 46, 112, 97, 114, 97, 109, 101, 116, 101, 114, 115, 46]⟩ := by decide
  have x1_20_26_26 : (⟨#[46, 111, 117, 116, 112, 117, 116, 115, 46, 112, 97, 114, 97, 109, 101, 116, 101, 114, 115, 46, 60, 110, 97, 109, 101, 62]⟩ : ByteArray).extract 20 26 = ⟨#[60, 110, 97, 109, 101, 62]⟩ := by decide
  have x1_26_26_26 : (⟨#[46, 111, 117, 116, 112, 117, 116, 115, 46, 112, 97, 114, 97, 109, 101, 116, 101, 114, 115, 46, 60, 110, 97, 109, 101, 62]⟩ : ByteArray).extract 26 26 = ⟨#[]⟩ := by decide
  go_enter Try.func20, Try.ntmps20
  go_wp2_with fail
  refine (HA _).mono ?_
  rintro e w1 ⟨rfl, hw1⟩
  subst hw1
  clear HA
  go_wp2_with fail
  refine wp_loop_rounds 3 ?_
  rw [rounds_succ]
  go_wp2_with fail
  refine (indexByte_is ⟨#[116, 97, 115, 107, 115, 46, 60, 116, 97, 115, 107, 62, 46, 111, 117, 116, 112, 117, 116, 115, 46, 112, 97, 114, 97, 109, 101, 116, 101, 114, 115, 46, 60, 110, 97, 109, 101, 62]⟩ 60 6 _ (by decide)).mono ?_
  rintro e w1 ⟨rfl, hw1⟩
  subst hw1
  go_wp2_with fail
  refine (cutPrefix_at T ⟨#[116, 97, 115, 107, 115, 46]⟩ R _ (by rw [HT.out, HR.out, HN.out]; try rfl)).mono ?_
  rintro e w1 ⟨rfl, hw1⟩
  subst hw1
  go_wp2_with fail
  refine (indexByte_is ⟨#[60, 116, 97, 115, 107, 62, 46, 111, 117, 116, 112, 117, 116, 115, 46, 112, 97, 114, 97, 109, 101, 116, 101, 114, 115, 46, 60, 110, 97, 109, 101, 62]⟩ 62 5 _ (by decide)).mono ?_
  rintro e w1 ⟨rfl, hw1⟩
  subst hw1
  go_wp2_with fail
  refine (cut_at ⟨#[46, 111, 117, 116, 112, 117, 116, 115, 46, 112, 97, 114, 97, 109, 101, 116, 101, 114, 115, 46, 60, 110, 97, 109, 101, 62]⟩ ⟨#[60]⟩ ⟨#[46, 111, 117, 116, 112, 117, 116, 115, 46, 112, 97, 114, 97, 109, 101, 116, 101, 114, 115, 46]⟩ ⟨#[110, 97, 109, 101, 62]⟩ m _ (by decide) (by exact cell0 hm _ _) (by decide) (by unfold Lib.NoOcc; decide)).mono ?_
  rintro e w1 ⟨rfl, d1, hw1⟩
  subst hw1
  go_wp2_with fail
  refine (cut_at R ⟨#[46, 111, 117, 116, 112, 117, 116, 115, 46, 112, 97, 114, 97, 109, 101, 116, 101, 114, 115, 46]⟩ t n m _ hRb2 (by exact cell0 hm _ _) (by rw [HR.out, HN.out]) (by rw [HR.out, HN.out]; exact HNO.out)).mono ?_
  rintro e w1 ⟨rfl, d2, hw1⟩
  subst hw1
  go_wp2_with fail
  rw [rounds_succ]
  go_wp2_with fail
  refine (indexByte_is ⟨#[46, 111, 117, 116, 112, 117, 116, 115, 46, 112, 97, 114, 97, 109, 101, 116, 101, 114, 115, 46, 60, 110, 97, 109, 101, 62]⟩ 60 20 _ (by decide)).mono ?_
  rintro e w1 ⟨rfl, hw1⟩
  subst hw1
  go_wp2_with fail
  refine (cutPrefix_at N ⟨#[46, 111, 117, 116, 112, 117, 116, 115, 46, 112, 97, 114, 97, 109, 101, 116, 101, 114, 115, 46]⟩ n _ (by rw [HN.out]; try rfl)).mono ?_
  rintro e w1 ⟨rfl, hw1⟩
  subst hw1
  go_wp2_with fail
  refine (indexByte_is ⟨#[60, 110, 97, 109, 101, 62]⟩ 62 5 _ (by decide)).mono ?_
  rintro e w1 ⟨rfl, hw1⟩
  subst hw1
  go_wp2_with fail
  refine (cut_miss ⟨#[]⟩ ⟨#[60]⟩ m _ (by decide) (by exact cell0 hm _ _) (by decide)).mono ?_
  rintro e w1 ⟨rfl, d3, hw1⟩
  subst hw1
  go_wp2_with fail
  refine (cutSuffix_at n ⟨#[]⟩ n _ (by omega) (by simp)).mono ?_
  rintro e w1 ⟨rfl, hw1⟩
  subst hw1
  go_wp2_with fail
  rw [rounds_succ]
  go_wp2_with fail
  refine (indexByte_is ⟨#[]⟩ 60 (-1) _ (by decide)).mono ?_
  rintro e w1 ⟨rfl, hw1⟩
  subst hw1
  go_wp2_with fail
  exact bodyPost_ret (v := .tuple #[.agg #[.string ⟨#[116, 97, 115, 107, 115, 46, 60, 116, 97, 115, 107, 62, 46, 111, 117, 116, 112, 117, 116, 115, 46, 112, 97, 114, 97, 109, 101, 116, 101, 114, 115, 46, 60, 110, 97, 109, 101, 62]⟩, .string t, .string n], .bool true]) (by simp [results, Try.results20, go_sem]) rfl ⟨rfl, below_end _ _ _ _⟩

set_option maxRecDepth 100000 in
set_option maxHeartbeats 2000000 in
theorem read4 (T : ByteArray) (t : ByteArray) (n : ByteArray) (m : Int) (w : World) (hT : T.data.toList = t.data.toList ++ ([58] ++ n.data.toList)) (hst : t.size ≤ 1048576) (het : t.toList.isEmpty = false) (hsn : n.size ≤ 1048576) (hen : n.toList.isEmpty = false) (hno : Lib.NoOcc (t.data.toList ++ ([58] ++ n.data.toList)) [58] t.data.toList.length) (hm : w.cell? ⟨0, 0, none⟩ = some (.int .i64 m)) :
    Calls Try.prog 20 #[.string ⟨#[60, 116, 97, 115, 107, 62, 58, 60, 110, 97, 109, 101, 62]⟩, .string T] w fun e w' => e = .returned (.tuple #[.agg #[.string ⟨#[60, 116, 97, 115, 107, 62, 58, 60, 110, 97, 109, 101, 62]⟩, .string t, .string n], .bool true]) ∧ Below w.heap.size w w' := by
  have HA := fun wx => align_same ⟨#[60, 116, 97, 115, 107, 62, 58, 60, 110, 97, 109, 101, 62]⟩ T wx (.inr (by decide))
  have HT : Hid (T.data.toList = t.data.toList ++ ([58] ++ n.data.toList)) := hT
  have HNO : Hid (Lib.NoOcc (t.data.toList ++ ([58] ++ n.data.toList)) [58] t.data.toList.length) := hno
  clear hT hno
  have sd : ∀ (W : World) (j : Nat) (x : Addr) (v : Value), (W.drewN j).setCell x v = (W.setCell x v).drewN j := fun _ _ _ _ => rfl
  obtain ⟨N, hN⟩ : ∃ N : ByteArray, N.data.toList = [58] ++ n.data.toList := ⟨bs _, bs_list _⟩
  obtain ⟨R, hR⟩ : ∃ R : ByteArray, R.data.toList = t.data.toList ++ N.data.toList := ⟨bs _, bs_list _⟩
  have hRs : R.size = t.size + (1 + n.size) := by rw [size_list R, size_list t, size_list n, hR, hN]; simp; omega
  have hRx : R.extract t.size R.size = N := by
    rw [← list_bs (R.extract t.size R.size), ← list_bs N]
    congr 1
    rw [Lib.extract_data, hR, size_list t, List.drop_left, List.take_of_length_le (by rw [size_list R, hR]; simp)]
  have HR : Hid (R.data.toList = t.data.toList ++ N.data.toList) := hR
  have HN : Hid (N.data.toList = [58] ++ n.data.toList) := hN
  have hRb : t.size ≤ R.size := by omega
  have hRb2 : R.size < 4294967281 := by omega
  have HRS : Hid (R.size = t.size + (1 + n.size)) := hRs
  clear hR hN hRs
  have x1_0_0_13 : (⟨#[60, 116, 97, 115, 107, 62, 58, 60, 110, 97, 109, 101, 62]⟩ : ByteArray).extract 0 0 = ⟨#[]⟩ := by decide
  have x1_0_13_13 : (⟨#[60, 116, 97, 115, 107, 62, 58, 60, 110, 97, 109, 101, 62]⟩ : ByteArray).extract 0 13 = ⟨#[60, 116, 97, 115, 107, 62, 58, 60, 110, 97, 109, 101, 62]⟩ := by decide
  have x1_0_6_13 : (⟨#[60, 116, 97, 115, 107, 62, 58, 60, 110, 97, 109, 101, 62]⟩ : ByteArray).extract 0 6 = ⟨#[60, 116, 97, 115, 107, 62]⟩ := by decide
  have x1_6_13_13 : (⟨#[60, 116, 97, 115, 107, 62, 58, 60, 110, 97, 109, 101, 62]⟩ : ByteArray).extract 6 13 = ⟨#[58, 60, 110, 97, 109, 101, 62]⟩ := by decide
  have x1_0_1_7 : (⟨#[58, 60, 110, 97, 109, 101, 62]⟩ : ByteArray).extract 0 1 = ⟨#[58]⟩ := by decide
  have x1_1_7_7 : (⟨#[58, 60, 110, 97, 109, 101, 62]⟩ : ByteArray).extract 1 7 = ⟨#[60, 110, 97, 109, 101, 62]⟩ := by decide
  have x1_7_7_7 : (⟨#[58, 60, 110, 97, 109, 101, 62]⟩ : ByteArray).extract 7 7 = ⟨#[]⟩ := by decide
  go_enter Try.func20, Try.ntmps20
  go_wp2_with fail
  refine (HA _).mono ?_
  rintro e w1 ⟨rfl, hw1⟩
  subst hw1
  clear HA
  go_wp2_with fail
  refine wp_loop_rounds 3 ?_
  rw [rounds_succ]
  go_wp2_with fail
  refine (indexByte_is ⟨#[60, 116, 97, 115, 107, 62, 58, 60, 110, 97, 109, 101, 62]⟩ 60 0 _ (by decide)).mono ?_
  rintro e w1 ⟨rfl, hw1⟩
  subst hw1
  go_wp2_with fail
  refine (cutPrefix_at T ⟨#[]⟩ R _ (by rw [HT.out, HR.out, HN.out]; try rfl)).mono ?_
  rintro e w1 ⟨rfl, hw1⟩
  subst hw1
  go_wp2_with fail
  refine (indexByte_is ⟨#[60, 116, 97, 115, 107, 62, 58, 60, 110, 97, 109, 101, 62]⟩ 62 5 _ (by decide)).mono ?_
  rintro e w1 ⟨rfl, hw1⟩
  subst hw1
  go_wp2_with fail
  refine (cut_at ⟨#[58, 60, 110, 97, 109, 101, 62]⟩ ⟨#[60]⟩ ⟨#[58]⟩ ⟨#[110, 97, 109, 101, 62]⟩ m _ (by decide) (by exact cell0 hm _ _) (by decide) (by unfold Lib.NoOcc; decide)).mono ?_
  rintro e w1 ⟨rfl, d1, hw1⟩
  subst hw1
  go_wp2_with fail
  refine (cut_at R ⟨#[58]⟩ t n m _ hRb2 (by exact cell0 hm _ _) (by rw [HR.out, HN.out]) (by rw [HR.out, HN.out]; exact HNO.out)).mono ?_
  rintro e w1 ⟨rfl, d2, hw1⟩
  subst hw1
  go_wp2_with fail
  rw [rounds_succ]
  go_wp2_with fail
  refine (indexByte_is ⟨#[58, 60, 110, 97, 109, 101, 62]⟩ 60 1 _ (by decide)).mono ?_
  rintro e w1 ⟨rfl, hw1⟩
  subst hw1
  go_wp2_with fail
  refine (cutPrefix_at N ⟨#[58]⟩ n _ (by rw [HN.out]; try rfl)).mono ?_
  rintro e w1 ⟨rfl, hw1⟩
  subst hw1
  go_wp2_with fail
  refine (indexByte_is ⟨#[60, 110, 97, 109, 101, 62]⟩ 62 5 _ (by decide)).mono ?_
  rintro e w1 ⟨rfl, hw1⟩
  subst hw1
  go_wp2_with fail
  refine (cut_miss ⟨#[]⟩ ⟨#[60]⟩ m _ (by decide) (by exact cell0 hm _ _) (by decide)).mono ?_
  rintro e w1 ⟨rfl, d3, hw1⟩
  subst hw1
  go_wp2_with fail
  refine (cutSuffix_at n ⟨#[]⟩ n _ (by omega) (by simp)).mono ?_
  rintro e w1 ⟨rfl, hw1⟩
  subst hw1
  go_wp2_with fail
  rw [rounds_succ]
  go_wp2_with fail
  refine (indexByte_is ⟨#[]⟩ 60 (-1) _ (by decide)).mono ?_
  rintro e w1 ⟨rfl, hw1⟩
  subst hw1
  go_wp2_with fail
  exact bodyPost_ret (v := .tuple #[.agg #[.string ⟨#[60, 116, 97, 115, 107, 62, 58, 60, 110, 97, 109, 101, 62]⟩, .string t, .string n], .bool true]) (by simp [results, Try.results20, go_sem]) rfl ⟨rfl, below_end _ _ _ _⟩

end Go.Proofs.Qxb6000823a
