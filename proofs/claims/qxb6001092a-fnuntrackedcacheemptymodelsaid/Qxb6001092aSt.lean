/-
  THE STATE of the buffer that zzB1BuildExt fills.
-/
import Derived.Test.Qxb6001092aEnc
namespace Go.Proofs.Qxb6001092a
open Go.RowKit

def Byt (l : List Int) : Prop := ∀ x ∈ l, 0 ≤ x ∧ x ≤ 255

/-- The first bytes of the row at block G (T cells, all of them bytes) are D; below G all is as in w2. -/
def St (w2 wx : World) (B G T : Nat) (D : List Int) : Prop :=
  ∃ X : List Int, X.length = T ∧ X.take D.length = D ∧ Byt X ∧ wx.ownsRow B 5 1 (.slice (some ⟨G, 0, none⟩) T T) T (X.map (Value.int .u8)) ∧ Below G w2 wx

theorem take_set_snoc (X : List Int) (q : Nat) (x : Int) (h : q < X.length) : (X.set q x).take (q + 1) = X.take q ++ [x] := by
  rw [List.take_succ_eq_append_getElem (by rw [List.length_set]; exact h), List.getElem_set_self, List.take_set_of_le (Nat.le_refl q)]

theorem St.cells {w2 wx : World} {B G T q : Nat} {D : List Int} (h : St w2 wx B G T D) (_hq : D.length = q) (hlt : q < T) :
    ∃ v, wx.cell? ⟨G, q, none⟩ = some (.int .u8 v) ∧ wx.frozen? ⟨G, q, none⟩ = false := by
  obtain ⟨X, hX, _, _, hown, _⟩ := h
  have h1 := hown.cellAt q (by omega)
  have hqX : q < X.length := by omega
  rw [List.getElem?_map, List.getElem?_eq_getElem hqX] at h1
  exact ⟨_, h1, hown.frozenAt q⟩

theorem St.put {w2 wx : World} {B G T q : Nat} {D : List Int} (h : St w2 wx B G T D) (hG : w2.heap.size = G) (hq : D.length = q) (hlt : q < T) (x : Int) (hx : 0 ≤ x ∧ x ≤ 255) :
    St w2 (wx.setCell ⟨G, q, none⟩ (.int .u8 x)) B G T (D ++ [x]) := by
  obtain ⟨X, hX, hD, hby, hown, hbel⟩ := h
  have hst := hown.stored q (.int .u8 x)
  rw [← List.map_set] at hst
  refine ⟨X.set q x, by rw [List.length_set]; exact hX, ?_, ?_, hst.1, hbel.grown hst.2 (by have := hbel.size; omega) (by intro t ht; simp at ht; omega)⟩
  · rw [List.length_append, hq]
    show (X.set q x).take (q + 1) = _
    rw [take_set_snoc X q x (by omega)]
    rw [hq] at hD
    rw [hD]
  · intro y hy
    rcases List.mem_or_eq_of_mem_set hy with g | g
    · exact hby y g
    · rw [g]; exact hx

theorem St.skip {w2 wx : World} {B G T q : Nat} {D : List Int} (h : St w2 wx B G T D) (hq : D.length = q) (hlt : q < T) : ∃ x, (0 ≤ x ∧ x ≤ 255) ∧ St w2 wx B G T (D ++ [x]) := by
  obtain ⟨X, hX, hD, hby, hown, hbel⟩ := h
  have hqX : q < X.length := by omega
  refine ⟨X[q], hby _ (List.getElem_mem hqX), X, hX, ?_, hby, hown, hbel⟩
  rw [List.length_append, hq]
  show X.take (q + 1) = _
  rw [List.take_succ_eq_append_getElem hqX]
  rw [hq] at hD
  rw [hD]

theorem St.full {w2 wx : World} {B G T : Nat} {D : List Int} (h : St w2 wx B G T D) (hq : D.length = T) : Own wx B G D ∧ Byt D := by
  obtain ⟨X, hX, hD, hby, hown, _⟩ := h
  have : X = D := by rw [← hD, List.take_of_length_le (by omega)]
  subst this
  refine ⟨?_, hby⟩
  unfold Own
  rw [hX]
  exact hown

theorem St.below {w2 wx : World} {B G T : Nat} {D : List Int} (h : St w2 wx B G T D) : Below G w2 wx := by
  obtain ⟨_, _, _, _, _, hbel⟩ := h
  exact hbel

theorem St.start {w2 w3 : World} {B G T : Nat} (hown : w3.ownsRow B 5 1 (.slice (some ⟨G, 0, none⟩) T T) T (List.replicate T (.int .u8 0))) (hbel : Below G w2 w3) : St w2 w3 B G T [] :=
  ⟨List.replicate T 0, by simp, by simp, fun x hx => by have := List.eq_of_mem_replicate hx; omega, by simpa using hown, hbel⟩

/-- A slice of the call's own as a source. -/
theorem Own.tl {w : World} {base g : Nat} {xs : List Int} (h : Own w base g xs) (hg : g < w.heap.size) : Tl w (some ⟨g, 0, none⟩) xs := by
  intro k hk
  refine ⟨g, 0, rfl, hg, fun i hi => ?_⟩
  have h1 := h.cellAt i (by omega)
  rw [Nat.zero_add, h1, List.getElem?_map, List.getElem?_eq_getElem hi, List.getD_eq_getElem?_getD, List.getElem?_eq_getElem hi]
  rfl

theorem Own.lt {w : World} {base g : Nat} {xs : List Int} (h : Own w base g xs) : base ≤ g ∧ g < w.heap.size := World.ownsRow.lt h g rfl

theorem take_snoc (l : List Int) (k : Nat) (h : k < l.length) : l.take (k + 1) = l.take k ++ [l.getD k 0] := by
  rw [List.take_succ_eq_append_getElem h, List.getD_eq_getElem?_getD, List.getElem?_eq_getElem h]; rfl

theorem byt_getD {l : List Int} (h : Byt l) (k : Nat) : 0 ≤ l.getD k 0 ∧ l.getD k 0 ≤ 255 := by
  rw [List.getD_eq_getElem?_getD]
  by_cases hk : k < l.length
  · rw [List.getElem?_eq_getElem hk]; exact h _ (List.getElem_mem hk)
  · rw [List.getElem?_eq_none (by omega)]; simp

theorem byt_enc (n : Nat) : Byt (Plain.enc n) := by
  intro x hx
  unfold Plain.enc at hx
  rw [List.mem_append] at hx
  rcases hx with hx | hx
  · have := Plain.encF_big 10 _ x hx; omega
  · simp only [List.mem_cons, List.not_mem_nil, or_false] at hx; omega

end Go.Proofs.Qxb6001092a
