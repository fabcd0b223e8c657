namespace Go.Proofs.Qxb6003389a.Rset

/-- A canonical set's tail behind a pair that ended at 'p'. -/
def canonF : Int → List Int → Bool
  | _, [] => true
  | _, [_] => false
  | p, lo :: hi :: r => decide (0 ≤ lo ∧ hi ≤ 1114111 ∧ lo ≤ hi ∧ p + 1 < lo) && canonF hi r
def canon (s : List Int) : Bool := canonF (-2) s
def mem : List Int → Int → Bool
  | lo :: hi :: r, x => decide (lo ≤ x ∧ x ≤ hi) || mem r x
  | _, _ => false
def compF : Int → List Int → List Int
  | n, lo :: hi :: r => if n < lo then n :: (lo - 1) :: compF (hi + 1) r else compF (hi + 1) r
  | n, _ => if n ≤ 1114111 then [n, 1114111] else []
def comp (s : List Int) : List Int := compF 0 s

theorem canonF_cons {p lo hi : Int} {r : List Int} : canonF p (lo :: hi :: r) = true ↔ 0 ≤ lo ∧ hi ≤ 1114111 ∧ lo ≤ hi ∧ p + 1 < lo ∧ canonF hi r = true := by
  simp [canonF, and_assoc]

theorem compF_canon : ∀ (s : List Int) (p n q : Int), canonF p s = true → n ≤ p + 2 → 0 ≤ n → q + 1 < n → canonF q (compF n s) = true
  | [], p, n, q, _, _, h2, h3 => by
    simp only [compF]
    split
    · simp [canonF]; omega
    · rfl
  | [_], p, n, q, h, _, _, _ => by simp [canonF] at h
  | lo :: hi :: r, p, n, q, h, h1, h2, h3 => by
    obtain ⟨a, b, c, d, e⟩ := canonF_cons.1 h
    simp only [compF]
    split
    · rename_i hlt
      rw [canonF_cons]
      exact ⟨h2, by omega, by omega, h3, compF_canon r hi (hi + 1) (lo - 1) e (by omega) (by omega) (by omega)⟩
    · exact compF_canon r hi (hi + 1) q e (by omega) (by omega) (by omega)

theorem compF_length : ∀ (s : List Int) (n : Int), (compF n s).length ≤ s.length + 2
  | [], n => by simp only [compF]; split <;> simp
  | [_], n => by simp only [compF]; split <;> simp
  | lo :: hi :: r, n => by
    have := compF_length r (hi + 1)
    simp only [compF]
    split <;> simp only [List.length_cons] <;> omega

theorem mem_low : ∀ (s : List Int) (p x : Int), canonF p s = true → x ≤ p + 1 → mem s x = false
  | [], _, _, _, _ => rfl
  | [_], _, _, h, _ => by simp [canonF] at h
  | lo :: hi :: r, p, x, h, hx => by
    obtain ⟨a, b, c, d, e⟩ := canonF_cons.1 h
    simp only [mem]
    rw [mem_low r hi x e (by omega), Bool.or_false, decide_eq_false_iff_not]
    omega

theorem mem_comp : ∀ (s : List Int) (p n x : Int), canonF p s = true → n ≤ p + 2 → 0 ≤ n → n ≤ x → x ≤ 1114111 → mem (compF n s) x = !mem s x
  | [], p, n, x, _, _, h2, h3, h4 => by
    simp only [compF]
    rw [if_pos (by omega)]
    simp [mem]; omega
  | [_], _, _, _, h, _, _, _, _ => by simp [canonF] at h
  | lo :: hi :: r, p, n, x, h, h1, h2, h3, h4 => by
    obtain ⟨a, b, c, d, e⟩ := canonF_cons.1 h
    have hc := compF_canon r hi (hi + 1) (hi - 1) e (by omega) (by omega) (by omega)
    have key : mem (compF (hi + 1) r) x = if hi < x then !mem r x else false := by
      split
      · exact mem_comp r hi (hi + 1) x e (by omega) (by omega) (by omega) h4
      · exact mem_low _ _ _ hc (by omega)
    have low : ¬ hi < x → mem r x = false := fun hh => mem_low r hi x e (by omega)
    simp only [compF]
    split
    · simp only [mem]
      rw [key]
      by_cases hx : hi < x
      · have e1 : decide (n ≤ x ∧ x ≤ lo - 1) = false := by rw [decide_eq_false_iff_not]; omega
        have e2 : decide (lo ≤ x ∧ x ≤ hi) = false := by rw [decide_eq_false_iff_not]; omega
        rw [if_pos hx, e1, e2]; simp
      · rw [if_neg hx, low hx]
        by_cases hl : lo ≤ x
        · have e1 : decide (n ≤ x ∧ x ≤ lo - 1) = false := by rw [decide_eq_false_iff_not]; omega
          have e2 : decide (lo ≤ x ∧ x ≤ hi) = true := by rw [decide_eq_true_eq]; omega
          rw [e1, e2]; rfl
        · have e1 : decide (n ≤ x ∧ x ≤ lo - 1) = true := by rw [decide_eq_true_eq]; omega
          have e2 : decide (lo ≤ x ∧ x ≤ hi) = false := by rw [decide_eq_false_iff_not]; omega
          rw [e1, e2]; rfl
    · simp only [mem]
      rw [key]
      by_cases hx : hi < x
      · have e2 : decide (lo ≤ x ∧ x ≤ hi) = false := by rw [decide_eq_false_iff_not]; omega
        rw [if_pos hx, e2]; simp
      · have e2 : decide (lo ≤ x ∧ x ≤ hi) = true := by rw [decide_eq_true_eq]; omega
        rw [if_neg hx, e2]; rfl

theorem comp_back : ∀ (r : List Int) (lo hi : Int), canonF hi r = true → 0 ≤ lo → lo ≤ hi → hi ≤ 1114111 → compF lo (compF (hi + 1) r) = lo :: hi :: r
  | [], lo, hi, _, h0, h1, h2 => by
    by_cases hh : hi + 1 ≤ 1114111
    · simp only [compF]
      rw [if_pos hh]
      simp only [compF]
      rw [if_pos (by omega), if_neg (by omega), show hi + 1 - 1 = hi from by omega]
    · obtain rfl : hi = 1114111 := by omega
      simp only [compF]
      rw [if_neg hh]
      simp only [compF]
      rw [if_pos (by omega)]
  | [_], _, _, h, _, _, _ => by simp [canonF] at h
  | lo' :: hi' :: r, lo, hi, h, h0, h1, h2 => by
    obtain ⟨a, b, c, d, e⟩ := canonF_cons.1 h
    have ih := comp_back r lo' hi' e a c b
    simp only [compF]
    rw [if_pos (by omega)]
    simp only [compF]
    rw [if_pos (by omega), show lo' - 1 + 1 = lo' from by omega, ih, show hi + 1 - 1 = hi from by omega]

theorem comp_comp (s : List Int) (h : canon s = true) : comp (comp s) = s := by
  unfold canon at h
  unfold comp
  match s, h with
  | [], _ => rfl
  | [_], h => simp [canonF] at h
  | lo :: hi :: r, h =>
    obtain ⟨a, b, c, d, e⟩ := canonF_cons.1 h
    simp only [compF]
    by_cases h0 : 0 < lo
    · rw [if_pos h0]
      simp only [compF]
      rw [if_neg (by omega), show lo - 1 + 1 = lo from by omega, comp_back r lo hi e a c b]
    · obtain rfl : lo = 0 := by omega
      rw [if_neg h0, comp_back r 0 hi e (by omega) c b]

theorem canon_comp (s : List Int) (h : canon s = true) : canon (comp s) = true :=
  compF_canon s (-2) 0 (-2) h (by omega) (by omega) (by omega)
theorem comp_length (s : List Int) : (comp s).length ≤ s.length + 2 := compF_length s 0
theorem comp_mem (s : List Int) (x : Int) (h : canon s = true) (h0 : 0 ≤ x) (h1 : x ≤ 1114111) : mem (comp s) x = !mem s x :=
  mem_comp s (-2) 0 x h (by omega) (by omega) h0 h1

/-! ### by places -/
theorem canonF_even : ∀ (s : List Int) (p : Int), canonF p s = true → s.length % 2 = 0
  | [], _, _ => rfl
  | [_], _, h => by simp [canonF] at h
  | lo :: hi :: r, p, h => by
    have := canonF_even r hi (canonF_cons.1 h).2.2.2.2
    simp only [List.length_cons]; omega

/-- The 'i'-th pair of a canonical set. -/
theorem canonF_at : ∀ (s : List Int) (p : Int), canonF p s = true → ∀ i, 2 * i + 1 < s.length → p + 1 < s[2 * i]?.getD 0 ∧ 0 ≤ s[2 * i]?.getD 0 ∧ s[2 * i]?.getD 0 ≤ s[2 * i + 1]?.getD 0 ∧ s[2 * i + 1]?.getD 0 ≤ 1114111
  | [], _, _, i, hi => by simp at hi
  | [_], _, h, _, _ => by simp [canonF] at h
  | lo :: hi :: r, p, h, i, hlt => by
    obtain ⟨a, b, c, d, e⟩ := canonF_cons.1 h
    match i with
    | 0 => simp; omega
    | i + 1 =>
      have := canonF_at r hi e i (by simp only [List.length_cons] at hlt; omega)
      rw [show 2 * (i + 1) = 2 * i + 2 from by omega]
      simp only [List.getElem?_cons_succ]
      omega
theorem canonF_apart : ∀ (s : List Int) (p : Int), canonF p s = true → ∀ i j, i < j → 2 * j + 1 < s.length → s[2 * i + 1]?.getD 0 + 1 < s[2 * j]?.getD 0
  | [], _, _, i, j, _, hj => by simp at hj
  | [_], _, h, _, _, _, _ => by simp [canonF] at h
  | lo :: hi :: r, p, h, i, j, hij, hlt => by
    obtain ⟨a, b, c, d, e⟩ := canonF_cons.1 h
    match i, j with
    | _, 0 => omega
    | 0, j + 1 =>
      have := canonF_at r hi e j (by simp only [List.length_cons] at hlt; omega)
      rw [show 2 * (j + 1) = 2 * j + 2 from by omega]
      simp only [List.getElem?_cons_succ, Nat.mul_zero, Nat.zero_add, List.getElem?_cons_zero, Option.getD_some]
      omega
    | i + 1, j + 1 =>
      have := canonF_apart r hi e i j (by omega) (by simp only [List.length_cons] at hlt; omega)
      rw [show 2 * (j + 1) = 2 * j + 2 from by omega, show 2 * (i + 1) + 1 = 2 * i + 1 + 2 from by omega]
      simp only [List.getElem?_cons_succ]
      omega
theorem mem_at : ∀ (s : List Int) (x : Int), mem s x = true ↔ ∃ i, 2 * i + 1 < s.length ∧ s[2 * i]?.getD 0 ≤ x ∧ x ≤ s[2 * i + 1]?.getD 0
  | [], x => by simp [mem]
  | [_], x => by simp [mem]
  | lo :: hi :: r, x => by
    simp only [mem, Bool.or_eq_true, decide_eq_true_eq]
    rw [mem_at r x]
    constructor
    · rintro (h | ⟨i, h1, h2⟩)
      · exact ⟨0, by simp, by simpa using h⟩
      · refine ⟨i + 1, by simp only [List.length_cons]; omega, ?_⟩
        rw [show 2 * (i + 1) = 2 * i + 2 from by omega]
        simpa using h2
    · rintro ⟨i, h1, h2⟩
      match i with
      | 0 => left; simpa using h2
      | i + 1 =>
        right
        refine ⟨i, by simp only [List.length_cons] at h1; omega, ?_⟩
        rw [show 2 * (i + 1) = 2 * i + 2 from by omega] at h2
        simpa using h2

/-- What the binary search finds is membership. -/
theorem found (s : List Int) (c : Int) (k : Nat) (h : canon s = true) (hk : 2 * k ≤ s.length) (h1 : ∀ i, i < k → s[2 * i + 1]?.getD 0 < c) (h2 : 2 * k < s.length → c ≤ s[2 * k + 1]?.getD 0) :
    decide (2 * k < s.length ∧ s[2 * k]?.getD 0 ≤ c) = mem s c := by
  have ev := canonF_even s _ h
  rw [Bool.eq_iff_iff, decide_eq_true_eq, mem_at]
  constructor
  · rintro ⟨a, b⟩
    exact ⟨k, by omega, b, h2 a⟩
  · rintro ⟨i, a, b, d⟩
    have hik : k ≤ i := by
      by_cases hh : i < k
      · have := h1 i hh; omega
      · omega
    refine ⟨by omega, ?_⟩
    by_cases e : k = i
    · subst e; exact b
    · have := canonF_apart s _ h k i (by omega) a
      have := canonF_at s _ h k (by omega)
      omega
/-- The ends of a canonical set's pairs rise. -/
theorem ends_rise (s : List Int) (h : canon s = true) (i j : Nat) (hij : i ≤ j) (hj : 2 * j + 1 < s.length) : s[2 * i + 1]?.getD 0 ≤ s[2 * j + 1]?.getD 0 := by
  by_cases e : i = j
  · subst e; omega
  · have := canonF_apart s _ h i j (by omega) hj
    have := canonF_at s _ h j hj
    omega
end Go.Proofs.Qxb6003389a.Rset
