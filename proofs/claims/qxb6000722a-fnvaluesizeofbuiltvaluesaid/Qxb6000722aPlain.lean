/-
  PLAIN MATHEMATICS for FnValueSizeOfBuiltValue: lists of bytes (as Ints), no Go in sight.
-/
namespace Go.Proofs.Qxb6000722a.Plain

/-- Backslashes at the head of a list. -/
def tbr : List Int → Nat
  | [] => 0
  | c :: r => if c = 92 then tbr r + 1 else 0

/-- Backslashes right before place q. -/
def back (l : List Int) (q : Nat) : Nat := tbr (l.take q).reverse

theorem tbr_hit : ∀ (r : List Int) (k : Nat), k < tbr r → k < r.length ∧ r.getD k 0 = 92
  | [], k, h => by simp [tbr] at h
  | c :: r, k, h => by
    unfold tbr at h
    split at h
    · cases k with
      | zero => simp_all
      | succ k =>
        have := tbr_hit r k (by omega)
        simp at this ⊢
        exact this
    · omega

theorem tbr_end : ∀ (r : List Int), tbr r ≤ r.length ∧ (tbr r < r.length → r.getD (tbr r) 0 ≠ 92)
  | [] => by simp [tbr]
  | c :: r => by
    have ih := tbr_end r
    unfold tbr
    split
    · refine ⟨by simp; omega, ?_⟩
      intro h
      have := ih.2 (by simpa using h)
      simpa using this
    · simp_all

theorem rev_take (l : List Int) (q k : Nat) (hq : q ≤ l.length) (hk : k < q) : (l.take q).reverse.getD k 0 = l.getD (q - 1 - k) 0 := by
  have h1 : k < (l.take q).reverse.length := by simp; omega
  have h2 : q - 1 - k < l.length := by omega
  rw [List.getD_eq_getElem?_getD, List.getD_eq_getElem?_getD, List.getElem?_eq_getElem h1, List.getElem?_eq_getElem h2]
  simp only [Option.getD_some, List.getElem_reverse, List.getElem_take]
  congr 1
  simp
  omega

theorem back_hit (l : List Int) (q k : Nat) (hq : q ≤ l.length) (h : k < back l q) : k < q ∧ l.getD (q - 1 - k) 0 = 92 := by
  have := tbr_hit _ _ h
  have hk : k < q := by have := this.1; simp at this; omega
  exact ⟨hk, by rw [← rev_take l q k hq hk]; exact this.2⟩

theorem back_end (l : List Int) (q : Nat) (hq : q ≤ l.length) : back l q ≤ q ∧ (back l q < q → l.getD (q - 1 - back l q) 0 ≠ 92) := by
  have := tbr_end (l.take q).reverse
  have hlen : (l.take q).reverse.length = q := by simp; omega
  rw [hlen] at this
  refine ⟨this.1, fun h => ?_⟩
  rw [← rev_take l q (back l q) hq h]
  exact this.2 h

/-- The first quote behind an even number of backslashes. -/
def sq (l : List Int) : Option Nat := (List.range l.length).find? fun q => decide (l.getD q 0 = 34) && decide (back l q % 2 = 0)

theorem sq_some {l : List Int} {m : Nat} (h : sq l = some m) : m < l.length ∧ l.getD m 0 = 34 ∧ back l m % 2 = 0 ∧ ∀ q, q < m → l.getD q 0 = 34 → back l q % 2 = 1 := by
  unfold sq at h
  rw [List.find?_range_eq_some] at h
  obtain ⟨h1, h2, h3⟩ := h
  simp only [Bool.and_eq_true, decide_eq_true_eq] at h1
  refine ⟨by simpa using h2, h1.1, h1.2, fun q hq hc => ?_⟩
  have := h3 q hq
  simp only [hc, decide_true, Bool.true_and, Bool.not_eq_true', decide_eq_false_iff_not] at this
  omega

theorem sq_mk {l : List Int} {m : Nat} (h0 : m < l.length) (h1 : l.getD m 0 = 34) (h2 : back l m % 2 = 0) (h3 : ∀ q, q < m → l.getD q 0 = 34 → back l q % 2 = 1) : sq l = some m := by
  unfold sq
  rw [List.find?_range_eq_some]
  refine ⟨by rw [decide_eq_true h1, decide_eq_true h2]; rfl, by simpa using h0, fun q hq => ?_⟩
  by_cases hc : l.getD q 0 = 34
  · have := h3 q hq hc
    simp only [hc, decide_true, Bool.true_and, Bool.not_eq_true', decide_eq_false_iff_not]
    omega
  · rw [decide_eq_false hc]; rfl

/-- What valueSize reckons. -/
def V : Nat → List Int → Nat → Option Nat
  | 0, _, _ => none
  | _ + 1, [], _ => some 0
  | f + 1, b :: r, d =>
    if b = 34 then (sq r).bind fun m => if d = 0 then some (m + 2) else (V f (r.drop (m + 1)) d).map (· + (m + 2))
    else if b = 91 ∨ b = 123 then (V f r (d + 1)).map (· + 1)
    else if b = 93 ∨ b = 125 then (if d = 0 then some 0 else if d = 1 then some 1 else (V f r (d - 1)).map (· + 1))
    else if d = 0 ∧ (b = 44 ∨ b = 58 ∨ b = 32 ∨ b = 9 ∨ b = 13 ∨ b = 10) then some 0
    else (V f r d).map (· + 1)

/-- A backslash ahead of every backslash and quote. -/
def esc : List Int → List Int
  | [] => []
  | c :: t => if c = 92 ∨ c = 34 then 92 :: c :: esc t else c :: esc t

theorem esc_append (l m : List Int) : esc (l ++ m) = esc l ++ esc m := by
  induction l with
  | nil => simp [esc]
  | cons c t ih => by_cases h : c = 92 ∨ c = 34 <;> simp [esc, h, ih]

theorem esc_hit (l : List Int) (c : Int) (h : c = 92 ∨ c = 34) : esc (l ++ [c]) = esc l ++ [92] ++ [c] := by
  rw [esc_append]; simp [esc, h]
theorem esc_miss (l : List Int) (c : Int) (h : ¬ (c = 92 ∨ c = 34)) : esc (l ++ [c]) = esc l ++ [c] := by
  rw [esc_append]; simp [esc, h]

theorem esc_le (l : List Int) : l.length ≤ (esc l).length ∧ (esc l).length ≤ 2 * l.length := by
  induction l with
  | nil => simp [esc]
  | cons c t ih => by_cases h : c = 92 ∨ c = 34 <;> simp [esc, h] <;> omega

theorem tbr_snoc (l : List Int) (c : Int) : tbr (l ++ [c]).reverse = if c = 92 then tbr l.reverse + 1 else 0 := by
  simp [tbr]

theorem esc_even_rev : ∀ (n : Nat) (t : List Int), t.length = n → tbr (esc t).reverse % 2 = 0 := by
  intro n
  induction n with
  | zero => intro t h; have : t = [] := List.eq_nil_of_length_eq_zero h; subst this; simp [esc, tbr]
  | succ n ih =>
    intro t h
    have hne : t ≠ [] := by intro e; subst e; simp at h
    obtain ⟨l, c, rfl⟩ : ∃ l c, t = l ++ [c] := ⟨t.dropLast, t.getLast hne, (List.dropLast_concat_getLast hne).symm⟩
    have hl := ih l (by simpa using h)
    by_cases hc : c = 92 ∨ c = 34
    · rw [esc_hit l c hc, tbr_snoc, tbr_snoc]
      rcases hc with rfl | rfl <;> simp <;> omega
    · rw [esc_miss l c hc, tbr_snoc]
      have : ¬ c = 92 := fun e => hc (.inl e)
      simp [this]

theorem esc_even (t : List Int) : tbr (esc t).reverse % 2 = 0 := esc_even_rev _ t rfl

theorem esc_quote : ∀ (t : List Int) (q : Nat), q < (esc t).length → (esc t).getD q 0 = 34 → ∃ t', (esc t).take q = esc t' ++ [92]
  | [], q, h, _ => by simp [esc] at h
  | c :: t, q, h, hq => by
    by_cases hc : c = 92 ∨ c = 34
    · have he : esc (c :: t) = 92 :: c :: esc t := by simp [esc, hc]
      rw [he] at h hq ⊢
      match q with
      | 0 => simp at hq
      | 1 => exact ⟨[], by simp [esc]⟩
      | q + 2 =>
        obtain ⟨t', ht⟩ := esc_quote t q (by simpa using h) (by simpa using hq)
        exact ⟨c :: t', by simp [esc, hc, ht]⟩
    · have he : esc (c :: t) = c :: esc t := by simp [esc, hc]
      rw [he] at h hq ⊢
      match q with
      | 0 => exact absurd (.inr (by simpa using hq)) hc
      | q + 1 =>
        obtain ⟨t', ht⟩ := esc_quote t q (by simpa using h) (by simpa using hq)
        exact ⟨c :: t', by simp [esc, hc, ht]⟩

theorem sq_esc (t r : List Int) : sq (esc t ++ 34 :: r) = some (esc t).length := by
  apply sq_mk
  · simp
  · simp [List.getD_eq_getElem?_getD]
  · unfold back
    rw [List.take_left]
    exact esc_even t
  · intro q hq hc
    have hg : (esc t).getD q 0 = 34 := by
      rw [← hc, List.getD_eq_getElem?_getD, List.getD_eq_getElem?_getD, List.getElem?_append_left hq]
    obtain ⟨t', ht⟩ := esc_quote t q hq hg
    unfold back
    rw [List.take_append_of_le_length (by omega), ht, tbr_snoc]
    have := esc_even t'
    simp
    omega

/-- From depth d on the text r still bears m bytes of the value. -/
def P (r : List Int) (d m : Nat) : Prop := ∀ f, r.length < f → V f r d = some m

theorem P_step {b : Int} {r : List Int} {d d' m : Nat} (h : P r d' m) (hv : ∀ f, V (f + 1) (b :: r) d = (V f r d').map (· + 1)) : P (b :: r) d (m + 1) := by
  intro f hf
  cases f with
  | zero => simp at hf
  | succ f => rw [hv, h f (by simp at hf; omega)]; rfl

theorem P_any {b : Int} {r : List Int} {d m : Nat} (h : P r (d + 1) m) (hb : b ≠ 34) (h1 : b ≠ 91) (h2 : b ≠ 123) (h3 : b ≠ 93) (h4 : b ≠ 125) : P (b :: r) (d + 1) (m + 1) :=
  P_step h fun f => by simp [V, hb, h1, h2, h3, h4]

theorem P_br {b : Int} {r : List Int} {d m : Nat} (h : P r (d + 1) m) (hb : b = 91 ∨ b = 123) : P (b :: r) d (m + 1) :=
  P_step h fun f => by rcases hb with rfl | rfl <;> simp [V]

theorem P_str {t r : List Int} {d m : Nat} (h : P r (d + 1) m) : P (34 :: (esc t ++ 34 :: r)) (d + 1) (m + ((esc t).length + 2)) := by
  intro f hf
  cases f with
  | zero => simp at hf
  | succ f =>
    have e : V (f + 1) (34 :: (esc t ++ 34 :: r)) (d + 1) = (sq (esc t ++ 34 :: r)).bind fun m => if d + 1 = 0 then some (m + 2) else (V f ((esc t ++ 34 :: r).drop (m + 1)) (d + 1)).map (· + (m + 2)) := by simp [V]
    rw [e, sq_esc]
    have hd : (esc t ++ 34 :: r).drop ((esc t).length + 1) = r := by
      rw [List.drop_append]
      simp
    simp only [Option.bind_some, hd]
    rw [h f (by simp at hf; omega)]
    simp

theorem P_str0 {t r : List Int} : P (34 :: (esc t ++ 34 :: r)) 0 ((esc t).length + 2) := by
  intro f hf
  cases f with
  | zero => simp at hf
  | succ f =>
    have e : V (f + 1) (34 :: (esc t ++ 34 :: r)) 0 = (sq (esc t ++ 34 :: r)).bind fun m => some (m + 2) := by simp [V]
    rw [e, sq_esc]; rfl

/-- One level's opening. -/
def opn (wrd : Nat → List Int) (l : Nat) : List Int := (if l % 2 = 0 then [91, 34] else [123, 34]) ++ esc (wrd l) ++ (if l % 2 = 0 then [34, 44] else [34, 58])
/-- The openings of levels j-1 .. 0. -/
def opns (wrd : Nat → List Int) : Nat → List Int
  | 0 => []
  | j + 1 => opn wrd j ++ opns wrd j
def clo (l : Nat) : List Int := if l % 2 = 0 then [93] else [125]
/-- The closings of levels 0 .. j-1. -/
def clos : Nat → List Int
  | 0 => []
  | j + 1 => clos j ++ clo j

theorem len_opn (wrd : Nat → List Int) (l : Nat) : (opn wrd l).length = (esc (wrd l)).length + 4 := by
  unfold opn; split <;> simp <;> omega
theorem len_clo (l : Nat) : (clo l).length = 1 := by unfold clo; split <;> rfl
theorem len_clos : ∀ j, (clos j).length = j
  | 0 => rfl
  | j + 1 => by simp [clos, len_clos j, len_clo]

theorem P_opn {wrd : Nat → List Int} {l : Nat} {r : List Int} {d m : Nat} (h : P r (d + 1) m) : P (opn wrd l ++ r) d ((opn wrd l).length + m) := by
  rw [len_opn]
  unfold opn
  split
  · have := P_br (b := 91) (P_str (t := wrd l) (P_any (b := 44) h (by decide) (by decide) (by decide) (by decide) (by decide))) (.inl rfl)
    rw [show (esc (wrd l)).length + 4 + m = m + 1 + ((esc (wrd l)).length + 2) + 1 from by omega]
    simpa using this
  · have := P_br (b := 123) (P_str (t := wrd l) (P_any (b := 58) h (by decide) (by decide) (by decide) (by decide) (by decide))) (.inr rfl)
    rw [show (esc (wrd l)).length + 4 + m = m + 1 + ((esc (wrd l)).length + 2) + 1 from by omega]
    simpa using this

theorem P_opns {wrd : Nat → List Int} {r : List Int} {m : Nat} : ∀ (j d : Nat), P r (d + j) m → P (opns wrd j ++ r) d ((opns wrd j).length + m)
  | 0, d, h => by simpa [opns] using h
  | j + 1, d, h => by
    have := P_opn (wrd := wrd) (l := j) (P_opns (wrd := wrd) j (d + 1) (by rw [show d + 1 + j = d + (j + 1) from by omega]; exact h))
    simp only [opns, List.append_assoc, List.length_append]
    rw [Nat.add_assoc]
    exact this

theorem P_close {b : Int} {r : List Int} {d m : Nat} (hb : b = 93 ∨ b = 125) (h : P r (d + 1) m) : P (b :: r) (d + 2) (m + 1) :=
  P_step h fun f => by rcases hb with rfl | rfl <;> simp [V]
theorem P_close1 {b : Int} {r : List Int} (hb : b = 93 ∨ b = 125) : P (b :: r) 1 1 := by
  intro f hf
  cases f with
  | zero => simp at hf
  | succ f => rcases hb with rfl | rfl <;> simp [V]

theorem P_closers : ∀ (cs : List Int), (∀ c ∈ cs, c = 93 ∨ c = 125) → ∀ (tail : List Int), cs ≠ [] → P (cs ++ tail) cs.length cs.length
  | [], _, _, h => absurd rfl h
  | [c], h, tail, _ => by
    have := P_close1 (r := tail) (h c (by simp))
    simpa using this
  | c :: c' :: cs, h, tail, _ => by
    have ih := P_closers (c' :: cs) (fun x hx => h x (by simp at hx ⊢; right; exact hx)) tail (by simp)
    have := P_close (h c (by simp)) (by simpa using ih : P ((c' :: cs) ++ tail) (cs.length + 1) (cs.length + 1))
    simpa using this

theorem clos_mem : ∀ (j : Nat), ∀ c ∈ clos j, c = 93 ∨ c = 125
  | 0, c, h => by simp [clos] at h
  | j + 1, c, h => by
    simp only [clos, List.mem_append] at h
    rcases h with h | h
    · exact clos_mem j c h
    · unfold clo at h; split at h <;> simp at h <;> simp [h]

theorem P_clos (j : Nat) (tail : List Int) : P (clos (j + 1) ++ tail) (j + 1) (j + 1) := by
  have := P_closers (clos (j + 1)) (clos_mem _) tail (by intro e; have := len_clos (j + 1); rw [e] at this; simp at this)
  rwa [len_clos] at this

/-- The innermost value. -/
def core (n : Nat) (w0 : List Int) : List Int := if n = 0 then [110, 117, 108, 108] else [34] ++ esc w0 ++ [34]
def delim (b : Int) : Prop := b = 93 ∨ b = 125 ∨ b = 44 ∨ b = 58 ∨ b = 32 ∨ b = 9 ∨ b = 13 ∨ b = 10

theorem P_delim {b : Int} {r : List Int} (hb : delim b) : P (b :: r) 0 0 := by
  intro f hf
  cases f with
  | zero => simp at hf
  | succ f => unfold delim at hb; rcases hb with rfl | rfl | rfl | rfl | rfl | rfl | rfl | rfl <;> simp [V]
theorem P_nil (d : Nat) : P [] d 0 := by
  intro f hf
  cases f with
  | zero => simp at hf
  | succ f => simp [V]
theorem P_any0 {b : Int} {r : List Int} {m : Nat} (h : P r 0 m) (hb : b ≠ 34) (h1 : b ≠ 91) (h2 : b ≠ 123) (hd : ¬ delim b) : P (b :: r) 0 (m + 1) :=
  P_step h fun f => by
    unfold delim at hd
    have h3 : ¬ (b = 93 ∨ b = 125) := fun e => hd (by rcases e with e | e <;> simp [e])
    have h4 : ¬ (b = 44 ∨ b = 58 ∨ b = 32 ∨ b = 9 ∨ b = 13 ∨ b = 10) := fun e => hd (.inr (.inr e))
    simp [V, hb, h1, h2, h3, h4]

/-- THE LAW. -/
theorem V_built (wrd : Nat → List Int) (n : Nat) (w0 : List Int) (depth : Nat) (tail : List Int) (hd : n = 0 → depth = 0 → ∀ b r, tail = b :: r → delim b) :
    P (opns wrd depth ++ core n w0 ++ clos depth ++ tail) 0 (opns wrd depth ++ core n w0 ++ clos depth).length := by
  have hcore : P (core n w0 ++ (clos depth ++ tail)) depth ((core n w0).length + depth) := by
    cases depth with
    | zero =>
      simp only [clos, List.nil_append, Nat.add_zero]
      unfold core
      split
      · next h0 =>
        have ht : P tail 0 0 := by
          cases tail with
          | nil => exact P_nil 0
          | cons b r => exact P_delim (hd h0 rfl b r rfl)
        have := P_any0 (b := 110) (P_any0 (b := 117) (P_any0 (b := 108) (P_any0 (b := 108) ht (by decide) (by decide) (by decide) (by unfold delim; decide)) (by decide) (by decide) (by decide) (by unfold delim; decide)) (by decide) (by decide) (by decide) (by unfold delim; decide)) (by decide) (by decide) (by decide) (by unfold delim; decide)
        simpa using this
      · have := P_str0 (t := w0) (r := tail)
        simpa using this
    | succ k =>
      have hc := P_clos k tail
      unfold core
      split
      · have := P_any (b := 110) (P_any (b := 117) (P_any (b := 108) (P_any (b := 108) hc (by decide) (by decide) (by decide) (by decide) (by decide)) (by decide) (by decide) (by decide) (by decide) (by decide)) (by decide) (by decide) (by decide) (by decide) (by decide)) (by decide) (by decide) (by decide) (by decide) (by decide)
        have e : ([110, 117, 108, 108] : List Int).length + (k + 1) = k + 1 + 1 + 1 + 1 + 1 := by simp; omega
        rw [e]
        simpa using this
      · have := P_str (t := w0) hc
        have e : ([34] ++ esc w0 ++ [34] : List Int).length + (k + 1) = k + 1 + ((esc w0).length + 2) := by simp; omega
        rw [e]
        simpa using this
  have := P_opns (wrd := wrd) depth 0 (by rw [Nat.zero_add]; exact hcore)
  simp only [List.append_assoc, List.length_append, len_clos]
  exact this

theorem drop_cons (zs : List Int) (k : Nat) (hk : k < zs.length) : zs.drop k = zs.getD k 0 :: zs.drop (k + 1) := by
  rw [List.drop_eq_getElem_cons hk, List.getD_eq_getElem?_getD, List.getElem?_eq_getElem hk]; rfl

def sp (z : Int) : Prop := z = 44 ∨ z = 58 ∨ z = 32 ∨ z = 9 ∨ z = 13 ∨ z = 10
def plainB (z : Int) : Prop := z ≠ 34 ∧ z ≠ 91 ∧ z ≠ 123 ∧ z ≠ 93 ∧ z ≠ 125

theorem V_end {zs : List Int} {f d x k : Nat} (hk : zs.length ≤ k) (h : V f (zs.drop k) d = some x) : x = 0 := by
  rw [List.drop_of_length_le hk] at h
  cases f with
  | zero => simp [V] at h
  | succ f => simp [V] at h; omega

theorem V_case {zs : List Int} {f d x k : Nat} (hk : k < zs.length) (h : V f (zs.drop k) d = some x) :
    (zs.getD k 0 = 34 ∧ ∃ m, sq (zs.drop (k + 1)) = some m ∧ ((d = 0 ∧ x = m + 2) ∨ (1 ≤ d ∧ ∃ f' y, V f' (zs.drop (k + m + 2)) d = some y ∧ x = y + (m + 2)))) ∨
    ((zs.getD k 0 = 91 ∨ zs.getD k 0 = 123) ∧ ∃ f' y, V f' (zs.drop (k + 1)) (d + 1) = some y ∧ x = y + 1) ∨
    ((zs.getD k 0 = 93 ∨ zs.getD k 0 = 125) ∧ ((d = 0 ∧ x = 0) ∨ (d = 1 ∧ x = 1) ∨ (2 ≤ d ∧ ∃ f' y, V f' (zs.drop (k + 1)) (d - 1) = some y ∧ x = y + 1))) ∨
    (plainB (zs.getD k 0) ∧ d = 0 ∧ sp (zs.getD k 0) ∧ x = 0) ∨
    (plainB (zs.getD k 0) ∧ ¬ (d = 0 ∧ sp (zs.getD k 0)) ∧ ∃ f' y, V f' (zs.drop (k + 1)) d = some y ∧ x = y + 1) := by
  rw [drop_cons zs k hk] at h
  generalize zs.getD k 0 = z at h ⊢
  cases f with
  | zero => simp [V] at h
  | succ f =>
    unfold V at h
    split at h
    · next hz =>
      left
      refine ⟨hz, ?_⟩
      cases hs : sq (zs.drop (k + 1)) with
      | none => rw [hs] at h; simp at h
      | some m =>
        rw [hs] at h
        simp only [Option.bind_some] at h
        refine ⟨m, rfl, ?_⟩
        split at h
        · next hd => left; simp at h; exact ⟨hd, h.symm⟩
        · next hd =>
          right
          refine ⟨by omega, ?_⟩
          rw [List.drop_drop, show k + 1 + (m + 1) = k + m + 2 from by omega] at h
          cases hv : V f (zs.drop (k + m + 2)) d with
          | none => rw [hv] at h; simp at h
          | some y => rw [hv] at h; simp at h; exact ⟨f, y, hv, by omega⟩
    · next hz =>
      split at h
      · next hz2 =>
        right; left
        refine ⟨hz2, ?_⟩
        cases hv : V f (zs.drop (k + 1)) (d + 1) with
        | none => rw [hv] at h; simp at h
        | some y => rw [hv] at h; simp at h; exact ⟨f, y, hv, by omega⟩
      · next hz2 =>
        split at h
        · next hz3 =>
          right; right; left
          refine ⟨hz3, ?_⟩
          split at h
          · next hd => left; simp at h; exact ⟨hd, h.symm⟩
          · split at h
            · next hd => right; left; simp at h; exact ⟨hd, h.symm⟩
            · right; right
              refine ⟨by omega, ?_⟩
              cases hv : V f (zs.drop (k + 1)) (d - 1) with
              | none => rw [hv] at h; simp at h
              | some y => rw [hv] at h; simp at h; exact ⟨f, y, hv, by omega⟩
        · next hz3 =>
          have hp : plainB z := ⟨hz, fun e => hz2 (.inl e), fun e => hz2 (.inr e), fun e => hz3 (.inl e), fun e => hz3 (.inr e)⟩
          right; right; right
          split at h
          · next hd => left; simp at h; exact ⟨hp, hd.1, hd.2, h.symm⟩
          · next hd =>
            right
            refine ⟨hp, hd, ?_⟩
            cases hv : V f (zs.drop (k + 1)) d with
            | none => rw [hv] at h; simp at h
            | some y => rw [hv] at h; simp at h; exact ⟨f, y, hv, by omega⟩

/-- Every number is a byte's. -/
def Byt (l : List Int) : Prop := ∀ x ∈ l, 0 ≤ x ∧ x ≤ 255
theorem Byt.append {l m : List Int} (h : Byt l) (k : Byt m) : Byt (l ++ m) := fun x hx => by
  rcases List.mem_append.1 hx with g | g
  · exact h x g
  · exact k x g
theorem Byt.getD {l : List Int} (h : Byt l) (i : Nat) : 0 ≤ l.getD i 0 ∧ l.getD i 0 ≤ 255 := by
  rw [List.getD_eq_getElem?_getD]
  by_cases hi : i < l.length
  · rw [List.getElem?_eq_getElem hi]
    exact h _ (List.getElem_mem hi)
  · rw [List.getElem?_eq_none (by omega)]
    simp
theorem Byt.esc {l : List Int} (h : Byt l) : Byt (esc l) := by
  induction l with
  | nil => intro x hx; simp [Plain.esc] at hx
  | cons c t ih =>
    have h1 := h c (by simp)
    have h2 := ih fun x hx => h x (by simp [hx])
    intro x hx
    by_cases hc : c = 92 ∨ c = 34
    · simp only [Plain.esc, hc, if_true, List.mem_cons] at hx
      rcases hx with rfl | rfl | hx
      · omega
      · exact h1
      · exact h2 x hx
    · simp only [Plain.esc, hc, if_false, List.mem_cons] at hx
      rcases hx with rfl | hx
      · exact h1
      · exact h2 x hx
theorem Byt.two {a b : Int} (ha : 0 ≤ a ∧ a ≤ 255) (hb : 0 ≤ b ∧ b ≤ 255) : Byt [a, b] := by
  intro x hx
  simp only [List.mem_cons, List.not_mem_nil, or_false] at hx
  rcases hx with rfl | rfl
  · exact ha
  · exact hb
theorem Byt.one {a : Int} (ha : 0 ≤ a ∧ a ≤ 255) : Byt [a] := by
  intro x hx
  simp only [List.mem_cons, List.not_mem_nil, or_false] at hx
  subst hx
  exact ha
theorem byt_opns {wrd : Nat → List Int} (h : ∀ l, Byt (wrd l)) : ∀ j, Byt (opns wrd j)
  | 0 => by intro x hx; simp [opns] at hx
  | j + 1 => by
    rw [opns]
    refine Byt.append ?_ (byt_opns h j)
    unfold opn
    split
    · exact ((Byt.two (by decide) (by decide)).append (h j).esc).append (Byt.two (by decide) (by decide))
    · exact ((Byt.two (by decide) (by decide)).append (h j).esc).append (Byt.two (by decide) (by decide))
theorem byt_core {n : Nat} {w0 : List Int} (h : Byt w0) : Byt (core n w0) := by
  unfold core
  split
  · exact (Byt.two (a := 110) (b := 117) (by decide) (by decide)).append (Byt.two (a := 108) (b := 108) (by decide) (by decide))
  · exact ((Byt.one (by decide)).append h.esc).append (Byt.one (by decide))
theorem byt_clos (j : Nat) : Byt (clos j) := fun x hx => by rcases clos_mem j x hx with rfl | rfl <;> omega

end Go.Proofs.Qxb6000722a.Plain
