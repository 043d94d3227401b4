/-
  PLAIN MATHEMATICS for the two laws on untrackedCacheEmpty: lists of bytes (as Ints), no Go in sight.
-/
namespace Go.Proofs.Qxb6001092a.Plain

def lim : Nat := 144115188075855871

/-- What varint reckons: n so far, i bytes taken. -/
def vr : Nat → Nat → List Int → Nat × Nat
  | _, _, [] => (0, 0)
  | n, i, b :: r =>
    if 0 < i ∧ lim ≤ n then (0, 0)
    else if b < 128 then ((if 0 < i then (n + 1) * 128 else n) + (b % 128).toNat, i + 1)
    else vr ((if 0 < i then (n + 1) * 128 else n) + (b % 128).toNat) (i + 1) r

/-- The leading bytes of what zzB1EncVarint writes. -/
def encF : Nat → Nat → List Int
  | 0, _ => []
  | f + 1, m => if m = 0 then [] else encF f ((m - 1) / 128) ++ [128 + (((m - 1) % 128 : Nat) : Int)]
def enc (n : Nat) : List Int := encF 10 (n / 128) ++ [((n % 128 : Nat) : Int)]
def room : Nat → Nat
  | 0 => 0
  | f + 1 => 128 * room f + 128

theorem vr_stop {n i : Nat} {b : Int} {r : List Int} (h : 0 < i ∧ lim ≤ n) : vr n i (b :: r) = (0, 0) := by
  rw [vr, if_pos h]
theorem vr_end {n i : Nat} {b : Int} {r : List Int} (h : ¬ (0 < i ∧ lim ≤ n)) (hb : b < 128) : vr n i (b :: r) = ((if 0 < i then (n + 1) * 128 else n) + (b % 128).toNat, i + 1) := by
  rw [vr, if_neg h, if_pos hb]
theorem vr_more {n i : Nat} {b : Int} {r : List Int} (h : ¬ (0 < i ∧ lim ≤ n)) (hb : ¬ b < 128) : vr n i (b :: r) = vr ((if 0 < i then (n + 1) * 128 else n) + (b % 128).toNat) (i + 1) r := by
  rw [vr, if_neg h, if_neg hb]

theorem encF_zero (f : Nat) : encF f 0 = [] := by cases f <;> simp [encF]
theorem encF_succ (f m : Nat) (h : m ≠ 0) : encF (f + 1) m = encF f ((m - 1) / 128) ++ [128 + (((m - 1) % 128 : Nat) : Int)] := by
  rw [encF, if_neg h]
theorem encF_pos (f m : Nat) (h : m ≠ 0) (hr : m ≤ room f) : 0 < (encF f m).length := by
  cases f with
  | zero => simp [room] at hr; omega
  | succ f => rw [encF_succ f m h]; simp

theorem vr_encF : ∀ (f m : Nat) (s : List Int), m ≤ room f → m ≤ lim → vr 0 0 (encF f m ++ s) = vr (m - 1) (encF f m).length s
  | 0, m, s, h, _ => by
    have : m = 0 := by simpa [room] using h
    subst this
    simp [encF]
  | f + 1, m, s, h, hl => by
    by_cases hm : m = 0
    · subst hm; simp [encF]
    · rw [encF_succ f m hm, List.append_assoc]
      have hr : (m - 1) / 128 ≤ room f := by simp only [room] at h; omega
      rw [vr_encF f ((m - 1) / 128) _ hr (by omega)]
      have hx : ((128 : Int) + (((m - 1) % 128 : Nat) : Int)) % 128 = (((m - 1) % 128 : Nat) : Int) := by omega
      have hge : ¬ ((128 : Int) + (((m - 1) % 128 : Nat) : Int)) < 128 := by omega
      show vr ((m - 1) / 128 - 1) (encF f ((m - 1) / 128)).length ((128 + (((m - 1) % 128 : Nat) : Int)) :: s) = _
      rw [vr_more (by intro ⟨_, h2⟩; unfold lim at h2 hl; omega) hge, hx, List.length_append]
      by_cases h0 : (m - 1) / 128 = 0
      · rw [h0, encF_zero]
        simp only [List.length_nil, Nat.lt_irrefl, if_false, Int.toNat_natCast, List.length_cons, Nat.zero_sub, Nat.zero_add]
        congr 1
        omega
      · have hp := encF_pos f _ h0 hr
        rw [if_pos hp, Int.toNat_natCast]
        simp only [List.length_cons, List.length_nil, Nat.zero_add]
        congr 1
        omega

theorem vr_enc (n : Nat) (s : List Int) (h1 : n / 128 ≤ room 10) (h2 : n / 128 ≤ lim) : vr 0 0 (enc n ++ s) = (n, (enc n).length) := by
  unfold enc
  rw [List.append_assoc, vr_encF 10 (n / 128) _ h1 h2]
  show vr (n / 128 - 1) (encF 10 (n / 128)).length (((n % 128 : Nat) : Int) :: s) = _
  rw [vr_end (by intro ⟨_, h⟩; unfold lim at h h2; omega) (by omega), List.length_append]
  have hx : (((n % 128 : Nat) : Int) % 128).toNat = n % 128 := by omega
  rw [hx]
  by_cases h0 : n / 128 = 0
  · rw [h0, encF_zero]
    simp
    omega
  · have hp := encF_pos 10 _ h0 h1
    rw [if_pos hp]
    simp
    omega

theorem encF_big : ∀ (f m : Nat), ∀ x ∈ encF f m, 128 ≤ x ∧ x ≤ 255
  | 0, m, x, h => by simp [encF] at h
  | f + 1, m, x, h => by
    by_cases hm : m = 0
    · subst hm; simp [encF] at h
    · rw [encF_succ f m hm, List.mem_append] at h
      rcases h with h | h
      · exact encF_big f _ x h
      · simp only [List.mem_cons, List.not_mem_nil, or_false] at h
        omega

theorem vr_big : ∀ (l : List Int) (n i : Nat), (∀ x ∈ l, 128 ≤ x) → vr n i l = (0, 0)
  | [], n, i, _ => by simp [vr]
  | b :: r, n, i, h => by
    by_cases hs : 0 < i ∧ lim ≤ n
    · exact vr_stop hs
    · rw [vr_more hs (by have := h b (by simp); omega)]
      exact vr_big r _ _ fun x hx => h x (by simp [hx])

theorem vr_cut (n c : Nat) (s : List Int) (hc : c < (enc n).length) : vr 0 0 ((enc n ++ s).take c) = (0, 0) := by
  rw [List.take_append_of_le_length (by omega)]
  apply vr_big
  intro x hx
  unfold enc at hx hc
  rw [List.length_append] at hc
  simp only [List.length_cons, List.length_nil] at hc
  rw [List.take_append_of_le_length (by omega)] at hx
  exact (encF_big 10 _ x (List.mem_of_mem_take hx)).1

theorem vr_later : ∀ (l : List Int) (n i : Nat), 0 < i → (vr n i l).2 = 0 ∨ 128 ≤ (vr n i l).1
  | [], n, i, _ => by simp [vr]
  | b :: r, n, i, hi => by
    by_cases hs : 0 < i ∧ lim ≤ n
    · rw [vr_stop hs]; simp
    · by_cases hb : b < 128
      · rw [vr_end hs hb, if_pos hi]; right; simp only; omega
      · rw [vr_more hs hb]; exact vr_later r _ _ (by omega)

/-- Does a list open with the number 0? -/
def zeroB (l : List Int) : Bool := decide (0 < (vr 0 0 l).2) && decide ((vr 0 0 l).1 = 0)

theorem zeroB_of (l : List Int) (p : Nat × Nat) (h : vr 0 0 l = p) : zeroB l = (decide (0 < p.2) && decide (p.1 = 0)) := by subst h; rfl
theorem enc_len (n : Nat) : 0 < (enc n).length := by unfold enc; simp
theorem enc_small (n : Nat) (h : n < 128) : enc n = [(n : Int)] := by
  unfold enc
  rw [show n / 128 = 0 from by omega, encF_zero, Nat.mod_eq_of_lt h]
  rfl

theorem zeroB_enc (d : Nat) (s : List Int) (h : d / 128 ≤ room 10) : zeroB (enc d ++ s) = decide (d = 0) := by
  by_cases hd : d < 128
  · rw [enc_small d hd]
    unfold zeroB
    show (decide (0 < (vr 0 0 ((d : Int) :: s)).2) && decide ((vr 0 0 ((d : Int) :: s)).1 = 0)) = _
    rw [vr_end (by simp) (by omega)]
    simp only [Nat.lt_irrefl, if_false]
    have : ((d : Int) % 128).toNat = d := by omega
    rw [this]
    simp
  · have hne : d ≠ 0 := by omega
    rw [decide_eq_false hne]
    have hp := encF_pos 10 (d / 128) (by omega) h
    unfold enc
    cases he : encF 10 (d / 128) with
    | nil => rw [he] at hp; simp at hp
    | cons b r =>
      have hb := (encF_big 10 (d / 128) b (by rw [he]; simp)).1
      simp only [List.cons_append]
      rw [zeroB_of _ _ (vr_more (by simp) (by omega))]
      rcases vr_later (r ++ [((d % 128 : Nat) : Int)] ++ s) ((if 0 < 0 then (0 + 1) * 128 else 0) + (b % 128).toNat) (0 + 1) (by omega) with g | g
      · rw [Bool.and_eq_false_iff]; left; rw [decide_eq_false_iff_not]; omega
      · rw [Bool.and_eq_false_iff]; right; rw [decide_eq_false_iff_not]; omega

/-- The first NUL. -/
def fz : List Int → Option Nat
  | [] => none
  | b :: r => if b = 0 then some 0 else (fz r).map (· + 1)
theorem fz_none : ∀ (l : List Int), (∀ x ∈ l, x ≠ 0) → fz l = none
  | [], _ => rfl
  | b :: r, h => by rw [fz, if_neg (h b (by simp)), fz_none r fun x hx => h x (by simp [hx])]; rfl
theorem fz_hit : ∀ (l s : List Int), (∀ x ∈ l, x ≠ 0) → fz (l ++ 0 :: s) = some l.length
  | [], s, _ => by simp [fz]
  | b :: r, s, h => by
    rw [List.cons_append, fz, if_neg (h b (by simp)), fz_hit r s fun x hx => h x (by simp [hx])]
    simp

/-- What untrackedCacheEmpty answers. -/
def uce (E : List Int) (h : Nat) : Bool :=
  if (vr 0 0 E).2 = 0 ∨ E.length < (vr 0 0 E).1 then false
  else if E.length < (vr 0 0 E).2 + ((vr 0 0 E).1 + 72 + 4 + 2 * h) then false
  else match fz (E.drop ((vr 0 0 E).2 + ((vr 0 0 E).1 + 72 + 4 + 2 * h))) with
    | none => false
    | some i => zeroB (E.drop ((vr 0 0 E).2 + ((vr 0 0 E).1 + 72 + 4 + 2 * h) + i + 1))

def ext (ident F name : List Int) (d : Nat) (tail : List Int) : List Int := enc ident.length ++ (ident ++ (F ++ (name ++ (0 :: (enc d ++ tail)))))

theorem room_big : 144115188075855872 ≤ room 10 := by decide

theorem uce_model (ident F name : List Int) (h d : Nat) (tail : List Int) (hi : ident.length ≤ 262144) (hF : F.length = 76 + 2 * h) (hn : ∀ x ∈ name, x ≠ 0) (hd : d < 18446744073709551616) :
    uce (ext ident F name d tail) h = decide (d = 0) := by
  have hr := room_big
  have hv : vr 0 0 (ext ident F name d tail) = (ident.length, (enc ident.length).length) := vr_enc _ _ (by omega) (by unfold lim; omega)
  have hel := enc_len ident.length
  have hlen : (ext ident F name d tail).length = (enc ident.length).length + (ident.length + (F.length + (name.length + (1 + ((enc d).length + tail.length))))) := by
    unfold ext; simp; omega
  unfold uce
  rw [hv]
  simp only
  rw [if_neg (by omega), if_neg (by omega)]
  have hdrop : (ext ident F name d tail).drop ((enc ident.length).length + (ident.length + 72 + 4 + 2 * h)) = name ++ 0 :: (enc d ++ tail) := by
    unfold ext
    rw [List.drop_append, List.drop_of_length_le (by omega), List.nil_append, show (enc ident.length).length + (ident.length + 72 + 4 + 2 * h) - (enc ident.length).length = ident.length + (76 + 2 * h) from by omega,
      List.drop_append, List.drop_of_length_le (by omega), List.nil_append, show ident.length + (76 + 2 * h) - ident.length = F.length from by omega, List.drop_left]
  rw [hdrop, fz_hit _ _ hn]
  simp only
  have hdrop2 : (ext ident F name d tail).drop ((enc ident.length).length + (ident.length + 72 + 4 + 2 * h) + name.length + 1) = enc d ++ tail := by
    rw [Nat.add_assoc, ← List.drop_drop, hdrop, List.drop_append, List.drop_of_length_le (by omega), List.nil_append, show name.length + 1 - name.length = 1 from by omega]
    rfl
  rw [hdrop2]
  exact zeroB_enc d tail (by omega)

theorem uce_cut (ident F name : List Int) (h c : Nat) (hi : ident.length ≤ 262144) (hF : F.length = 76 + 2 * h) (hn : ∀ x ∈ name, x ≠ 0) (hc : c < (ext ident F name 0 []).length) :
    uce ((ext ident F name 0 []).take c) h = false := by
  have hr := room_big
  have hel := enc_len ident.length
  have he0 : enc 0 = [0] := enc_small 0 (by omega)
  have hlen : (ext ident F name 0 []).length = (enc ident.length).length + (ident.length + (F.length + (name.length + 2))) := by
    unfold ext; rw [he0]; simp
  have hcl : ((ext ident F name 0 []).take c).length = c := by rw [List.length_take]; omega
  unfold uce
  by_cases h1 : c < (enc ident.length).length
  · have hv : vr 0 0 ((ext ident F name 0 []).take c) = (0, 0) := vr_cut _ _ _ h1
    rw [hv, if_pos (by simp)]
  · have hsplit : (ext ident F name 0 []).take c = enc ident.length ++ (ident ++ (F ++ (name ++ [0, 0]))).take (c - (enc ident.length).length) := by
      unfold ext
      rw [he0, List.take_append, List.take_of_length_le (by omega)]
      rfl
    have hv : vr 0 0 ((ext ident F name 0 []).take c) = (ident.length, (enc ident.length).length) := by
      rw [hsplit]; exact vr_enc _ _ (by omega) (by unfold lim; omega)
    rw [hv, hcl]
    simp only
    by_cases h2 : c < ident.length
    · rw [if_pos (.inr h2)]
    · rw [if_neg (by omega)]
      by_cases h3 : c < (enc ident.length).length + (ident.length + 72 + 4 + 2 * h)
      · rw [if_pos h3]
      · rw [if_neg h3]
        have hdrop : ((ext ident F name 0 []).take c).drop ((enc ident.length).length + (ident.length + 72 + 4 + 2 * h)) = (name ++ [0, 0]).take (c - ((enc ident.length).length + (ident.length + 72 + 4 + 2 * h))) := by
          rw [List.drop_take]
          congr 1
          unfold ext
          rw [he0, List.drop_append, List.drop_of_length_le (by omega), List.nil_append, show (enc ident.length).length + (ident.length + 72 + 4 + 2 * h) - (enc ident.length).length = ident.length + (76 + 2 * h) from by omega,
            List.drop_append, List.drop_of_length_le (by omega), List.nil_append, show ident.length + (76 + 2 * h) - ident.length = F.length from by omega, List.drop_left]
          rfl
        generalize hk : c - ((enc ident.length).length + (ident.length + 72 + 4 + 2 * h)) = k at hdrop
        by_cases h4 : k ≤ name.length
        · rw [hdrop, List.take_append_of_le_length h4, fz_none _ fun x hx => hn x (List.mem_of_mem_take hx)]
        · have hk1 : k = name.length + 1 := by omega
          have ht : (name ++ [0, 0]).take k = name ++ 0 :: [] := by
            rw [hk1, List.take_append, List.take_of_length_le (by omega), show name.length + 1 - name.length = 1 from by omega]
            rfl
          rw [hdrop, ht, fz_hit _ _ hn]
          simp only
          rw [List.drop_of_length_le (by rw [hcl]; omega)]
          rfl

end Go.Proofs.Qxb6001092a.Plain
