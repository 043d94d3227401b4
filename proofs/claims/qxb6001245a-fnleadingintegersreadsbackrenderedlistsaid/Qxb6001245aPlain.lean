/-
  PLAIN MATHEMATICS for FnLeadingIntegersReadsBackRenderedList: lists of bytes (as Ints), no Go in sight.
-/
namespace Go.Proofs.Qxb6001245a.Plain

/-- Decimal digits, at most f of them. -/
def decF : Nat → Nat → List Int
  | 0, _ => []
  | f + 1, m => if m < 10 then [48 + (m : Int)] else decF f (m / 10) ++ [48 + ((m % 10 : Nat) : Int)]
def dg (m : Nat) : List Int := decF 20 m
/-- An integer as appendDecimal writes it. -/
def dec (v : Int) : List Int := if v < 0 then 45 :: dg (-v).toNat else dg v.toNat

theorem decF_small (f m : Nat) (h : m < 10) : decF (f + 1) m = [48 + (m : Int)] := by rw [decF, if_pos h]
theorem decF_big (f m : Nat) (h : ¬ m < 10) : decF (f + 1) m = decF f (m / 10) ++ [48 + ((m % 10 : Nat) : Int)] := by rw [decF, if_neg h]

theorem decF_digit : ∀ (f m : Nat), ∀ x ∈ decF f m, 48 ≤ x ∧ x ≤ 57
  | 0, m, x, h => by simp [decF] at h
  | f + 1, m, x, h => by
    by_cases hm : m < 10
    · rw [decF_small f m hm] at h
      simp only [List.mem_cons, List.not_mem_nil, or_false] at h
      omega
    · rw [decF_big f m hm, List.mem_append] at h
      rcases h with h | h
      · exact decF_digit f _ x h
      · simp only [List.mem_cons, List.not_mem_nil, or_false] at h
        omega

def acc : Nat → List Int → Nat
  | x, [] => x
  | x, c :: r => acc (x * 10 + (c - 48).toNat) r

theorem acc_append : ∀ (l : List Int) (x : Nat) (c : Int), acc x (l ++ [c]) = acc x l * 10 + (c - 48).toNat
  | [], x, c => rfl
  | d :: r, x, c => by rw [List.cons_append, acc, acc_append r, acc]

theorem acc_le : ∀ (l : List Int) (x : Nat), x ≤ acc x l
  | [], x => Nat.le_refl _
  | d :: r, x => by
    rw [acc]
    have := acc_le r (x * 10 + (d - 48).toNat)
    omega

theorem acc_decF : ∀ (f m : Nat), m < 10 ^ f → acc 0 (decF f m) = m
  | 0, m, h => by simp at h; subst h; rfl
  | f + 1, m, h => by
    by_cases hm : m < 10
    · rw [decF_small f m hm]
      show 0 * 10 + ((48 + (m : Int)) - 48).toNat = m
      omega
    · rw [decF_big f m hm, acc_append, acc_decF f (m / 10) (by rw [Nat.pow_succ] at h; omega)]
      omega

theorem decF_len_pos (f m : Nat) (h : 0 < f) : 0 < (decF f m).length := by
  cases f with
  | zero => omega
  | succ f =>
    by_cases hm : m < 10
    · rw [decF_small f m hm]; simp
    · rw [decF_big f m hm]; simp

theorem decF_len : ∀ (f m k : Nat), 0 < k → m < 10 ^ k → (decF f m).length ≤ k
  | 0, m, k, _, _ => by simp [decF]
  | f + 1, m, k, hk, h => by
    by_cases hm : m < 10
    · rw [decF_small f m hm]; simp; omega
    · rw [decF_big f m hm, List.length_append]
      have hk2 : 2 ≤ k := by
        rcases Nat.lt_or_ge k 2 with g | g
        · have : k = 1 := by omega
          subst this
          simp at h
          omega
        · exact g
      obtain ⟨j, rfl⟩ : ∃ j, k = j + 1 := ⟨k - 1, by omega⟩
      have := decF_len f (m / 10) j (by omega) (by rw [Nat.pow_succ] at h; omega)
      simp
      omega

theorem decF_head : ∀ (f m : Nat), 0 < m → m < 10 ^ f → (decF f m).getD 0 0 ≠ 48
  | 0, m, h0, h => by simp at h; omega
  | f + 1, m, h0, h => by
    by_cases hm : m < 10
    · rw [decF_small f m hm]
      show (48 + (m : Int)) ≠ 48
      omega
    · have h2 : m / 10 < 10 ^ f := by rw [Nat.pow_succ] at h; omega
      have hf : 0 < f := by
        rcases Nat.eq_zero_or_pos f with e | e
        · subst e; simp at h2; omega
        · exact e
      have hp := decF_len_pos f (m / 10) hf
      have ih := decF_head f (m / 10) (by omega) h2
      rw [decF_big f m hm, List.getD_eq_getElem?_getD, List.getElem?_append_left hp, ← List.getD_eq_getElem?_getD]
      exact ih

theorem dg_acc (m : Nat) (h : m < 100000000000000000000) : acc 0 (dg m) = m := acc_decF 20 m (by simpa using h)
theorem dg_pos (m : Nat) : 0 < (dg m).length := decF_len_pos 20 m (by omega)
theorem dg_len (m : Nat) (h : m < 10000000000000000000) : (dg m).length ≤ 19 := decF_len 20 m 19 (by omega) (by simpa using h)
theorem dg_digit (m : Nat) : ∀ x ∈ dg m, 48 ≤ x ∧ x ≤ 57 := decF_digit 20 m
/-- No leading zero. -/
theorem dg_zero (m : Nat) (h : m < 100000000000000000000) (h0 : (dg m).getD 0 0 = 48) : (dg m).length = 1 := by
  rcases Nat.eq_zero_or_pos m with e | e
  · subst e; rfl
  · exact absurd h0 (decF_head 20 m e (by simpa using h))

def spc (z : Int) : Prop := z = 32 ∨ z = 9 ∨ z = 10 ∨ z = 13

/-- What is built: the first k numbers. -/
def bd (g xs : List Int) : Nat → List Int
  | 0 => []
  | k + 1 => bd g xs k ++ ((if k = 0 then [] else 44 :: g) ++ (dec (xs.getD k 0) ++ g))
/-- What is left to be read behind a number. -/
def lft (g t : List Int) : List Int → List Int
  | [] => 93 :: t
  | x :: r => 44 :: (g ++ (dec x ++ (g ++ lft g t r)))
/-- What is to be read behind the opening bracket and its gap. -/
def fst (g t : List Int) : List Int → List Int
  | [] => 93 :: t
  | x :: r => dec x ++ (g ++ lft g t r)

theorem drop_cons (zs : List Int) (k : Nat) (hk : k < zs.length) : zs.drop k = zs.getD k 0 :: zs.drop (k + 1) := by
  rw [List.drop_eq_getElem_cons hk, List.getD_eq_getElem?_getD, List.getElem?_eq_getElem hk]; rfl

theorem bd_left (g t xs : List Int) : ∀ k, k ≤ xs.length → bd g xs k ++ (if k = 0 then fst g t xs else lft g t (xs.drop k)) = fst g t xs
  | 0, _ => by simp [bd]
  | k + 1, h => by
    have ih := bd_left g t xs k (by omega)
    have hd := drop_cons xs k (by omega)
    rw [if_neg (by omega), bd]
    by_cases hk : k = 0
    · subst hk
      rw [List.drop_zero] at hd
      simp only [if_true] at ih ⊢
      rw [bd]
      simp only [List.nil_append, List.append_assoc]
      have : fst g t xs = dec (xs.getD 0 0) ++ (g ++ lft g t (xs.drop 1)) := by
        conv => lhs; rw [hd]
        rfl
      rw [this]
    · rw [if_neg hk] at ih ⊢
      rw [hd, lft] at ih
      rw [← ih]
      simp

theorem bd_all (g t xs : List Int) : bd g xs xs.length ++ 93 :: t = fst g t xs := by
  have := bd_left g t xs xs.length (Nat.le_refl _)
  by_cases h : xs.length = 0
  · have hx : xs = [] := List.eq_nil_of_length_eq_zero h
    subst hx
    simp [bd, fst]
  · rw [if_neg h, List.drop_of_length_le (Nat.le_refl _)] at this
    exact this

theorem dec_len (v : Int) (h0 : -9223372036854775808 ≤ v) (h1 : v ≤ 9223372036854775807) : (dec v).length ≤ 20 := by
  unfold dec
  split
  · have := dg_len (-v).toNat (by omega); simp; omega
  · have := dg_len v.toNat (by omega); omega

theorem bd_len (g xs : List Int) (hx : ∀ i, -9223372036854775808 ≤ xs.getD i 0 ∧ xs.getD i 0 ≤ 9223372036854775807) : ∀ k, (bd g xs k).length ≤ k * (2 * g.length + 22)
  | 0 => by simp [bd]
  | k + 1 => by
    have ih := bd_len g xs hx k
    have hd := dec_len (xs.getD k 0) (hx k).1 (hx k).2
    rw [bd, List.length_append, List.length_append, Nat.succ_mul]
    split
    · rw [List.length_append, List.length_nil]; omega
    · rw [List.length_append, List.length_cons]; omega

/-- Every number is a byte's. -/
def Byt (l : List Int) : Prop := ∀ x ∈ l, 0 ≤ x ∧ x ≤ 255
theorem Byt.append {l m : List Int} (h : Byt l) (k : Byt m) : Byt (l ++ m) := fun x hx => by
  rcases List.mem_append.1 hx with g | g
  · exact h x g
  · exact k x g
theorem Byt.cons {c : Int} {m : List Int} (h : 0 ≤ c ∧ c ≤ 255) (k : Byt m) : Byt (c :: m) := fun x hx => by
  rcases List.mem_cons.1 hx with g | g
  · rw [g]; exact h
  · exact k x g
theorem byt_dec (v : Int) : Byt (dec v) := by
  intro x hx
  unfold dec at hx
  split at hx
  · rcases List.mem_cons.1 hx with g | g
    · omega
    · have := dg_digit _ x g; omega
  · have := dg_digit _ x hx; omega
theorem byt_lft {g t : List Int} (hg : Byt g) (ht : Byt t) : ∀ xs, Byt (lft g t xs)
  | [] => Byt.cons (by omega) ht
  | x :: r => Byt.cons (by omega) (hg.append ((byt_dec x).append (hg.append (byt_lft hg ht r))))
theorem byt_fst {g t : List Int} (hg : Byt g) (ht : Byt t) : ∀ xs, Byt (fst g t xs)
  | [] => Byt.cons (by omega) ht
  | x :: r => (byt_dec x).append (hg.append (byt_lft hg ht r))

theorem fst_mem (g t : List Int) : ∀ xs, 93 ∈ fst g t xs
  | [] => by simp [fst]
  | x :: r => by
    have h : ∀ r, 93 ∈ lft g t r := by
      intro r
      induction r with
      | nil => simp [lft]
      | cons y s ih => simp [lft, ih]
    simp [fst, h r]

end Go.Proofs.Qxb6001245a.Plain
