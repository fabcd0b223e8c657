namespace Go.Proofs.Qxb6003389a.Utf

/-- A byte that goes on a character: 10xxxxxx. -/
def isCont (b : UInt8) : Bool := decide (128 ≤ b.toNat ∧ b.toNat ≤ 191)
def within (lo hi : Nat) (b : UInt8) : Bool := decide (lo ≤ b.toNat ∧ b.toNat ≤ hi)
def lo3 (a : UInt8) : Nat := if a.toNat = 224 then 160 else 128
def hi3 (a : UInt8) : Nat := if a.toNat = 237 then 159 else 191
def lo4 (a : UInt8) : Nat := if a.toNat = 240 then 144 else 128
def hi4 (a : UInt8) : Nat := if a.toNat = 244 then 143 else 191

def step2 : List UInt8 → Nat
  | b :: _ => if within 128 191 b then 2 else 0
  | _ => 0
def step3 (a : UInt8) : List UInt8 → Nat
  | b :: c :: _ => if within (lo3 a) (hi3 a) b ∧ within 128 191 c then 3 else 0
  | _ => 0
def step4 (a : UInt8) : List UInt8 → Nat
  | b :: c :: d :: _ => if within (lo4 a) (hi4 a) b ∧ within 128 191 c ∧ within 128 191 d then 4 else 0
  | _ => 0

/-- How many bytes the first character takes; 0: there is none, or it is not well formed. -/
def step : List UInt8 → Nat
  | [] => 0
  | a :: r => if a.toNat < 128 then 1 else if a.toNat < 194 then 0 else if a.toNat < 224 then step2 r else if a.toNat < 240 then step3 a r else if a.toNat < 245 then step4 a r else 0

def validF : Nat → List UInt8 → Bool
  | _, [] => true
  | 0, _ :: _ => false
  | n + 1, a :: r => step (a :: r) != 0 && validF n ((a :: r).drop (step (a :: r)))

def valid (l : List UInt8) : Bool := validF l.length l

theorem step_le (l : List UInt8) : step l ≤ l.length := by
  match l with
  | [] => simp [step]
  | [a] => simp only [step, step2, step3, step4, List.length]; (repeat' split) <;> omega
  | [a, b] => simp only [step, step2, step3, step4, List.length]; (repeat' split) <;> omega
  | [a, b, c] => simp only [step, step2, step3, step4, List.length]; (repeat' split) <;> omega
  | a :: b :: c :: d :: r => simp only [step, step2, step3, step4, List.length]; (repeat' split) <;> omega

theorem step_le4 (l : List UInt8) : step l ≤ 4 := by
  match l with
  | [] => simp [step]
  | [a] => simp only [step, step2, step3, step4]; (repeat' split) <;> omega
  | [a, b] => simp only [step, step2, step3, step4]; (repeat' split) <;> omega
  | [a, b, c] => simp only [step, step2, step3, step4]; (repeat' split) <;> omega
  | a :: b :: c :: d :: r => simp only [step, step2, step3, step4]; (repeat' split) <;> omega

theorem validF_more (n : Nat) : ∀ (m : Nat) (l : List UInt8), l.length ≤ n → l.length ≤ m → validF n l = validF m l := by
  induction n with
  | zero =>
    intro m l h _
    match l, h with
    | [], _ => cases m <;> rfl
  | succ n ih =>
    intro m l h h'
    match l, m with
    | [], 0 => rfl
    | [], m + 1 => rfl
    | a :: r, m + 1 =>
      simp only [validF]
      by_cases hs : step (a :: r) = 0
      · simp [hs]
      · rw [ih m]
        · simp only [List.length_drop, List.length_cons] at *; omega
        · simp only [List.length_drop, List.length_cons] at *; omega

theorem valid_nil : valid [] = true := rfl
theorem valid_cons (a : UInt8) (r : List UInt8) : valid (a :: r) = (step (a :: r) != 0 && valid ((a :: r).drop (step (a :: r)))) := by
  unfold valid
  by_cases hs : step (a :: r) = 0
  · simp [validF, hs]
  · rw [show (a :: r).length = r.length + 1 from rfl]
    simp only [validF]
    rw [validF_more r.length]
    · simp only [List.length_drop, List.length_cons]; omega
    · exact Nat.le_refl _
theorem valid_ne (l : List UInt8) (h : l ≠ []) : valid l = (step l != 0 && valid (l.drop (step l))) := by
  match l, h with
  | a :: r, _ => exact valid_cons a r

/-- What the first character's bytes are: a first byte that is no cont byte, then cont bytes. -/
theorem step_cont (l : List UInt8) (j : Nat) (h1 : 1 ≤ j) (h2 : j < step l) : ∃ b, l[j]? = some b ∧ isCont b = true := by
  have wi : ∀ lo hi b, 128 ≤ lo → hi ≤ 191 → within lo hi b = true → isCont b = true := by
    intro lo hi b h h' hw
    simp only [within, isCont, decide_eq_true_eq] at *; omega
  have l3 : ∀ a, 128 ≤ lo3 a := by intro a; unfold lo3; split <;> omega
  have l4 : ∀ a, 128 ≤ lo4 a := by intro a; unfold lo4; split <;> omega
  have u3 : ∀ a, hi3 a ≤ 191 := by intro a; unfold hi3; split <;> omega
  have u4 : ∀ a, hi4 a ≤ 191 := by intro a; unfold hi4; split <;> omega
  have s3 : ∀ a r, step3 a r ≠ 0 → ∃ b c r', r = b :: c :: r' ∧ isCont b = true ∧ isCont c = true ∧ step3 a r = 3 := by
    intro a r h
    match r with
    | [] => simp [step3] at h
    | [b] => simp [step3] at h
    | b :: c :: r' =>
      simp only [step3] at h ⊢
      split at h
      · rename_i hw; rw [if_pos hw]; exact ⟨b, c, r', rfl, wi _ _ _ (l3 a) (u3 a) hw.1, wi _ _ _ (by omega) (by omega) hw.2, rfl⟩
      · exact absurd rfl h
  have s4 : ∀ a r, step4 a r ≠ 0 → ∃ b c d r', r = b :: c :: d :: r' ∧ isCont b = true ∧ isCont c = true ∧ isCont d = true ∧ step4 a r = 4 := by
    intro a r h
    match r with
    | [] => simp [step4] at h
    | [b] => simp [step4] at h
    | [b, c] => simp [step4] at h
    | b :: c :: d :: r' =>
      simp only [step4] at h ⊢
      split at h
      · rename_i hw; rw [if_pos hw]; exact ⟨b, c, d, r', rfl, wi _ _ _ (l4 a) (u4 a) hw.1, wi _ _ _ (by omega) (by omega) hw.2.1, wi _ _ _ (by omega) (by omega) hw.2.2, rfl⟩
      · exact absurd rfl h
  have s2 : ∀ r, step2 r ≠ 0 → ∃ b r', r = b :: r' ∧ isCont b = true ∧ step2 r = 2 := by
    intro r h
    match r with
    | [] => simp [step2] at h
    | b :: r' =>
      simp only [step2] at h ⊢
      split at h
      · rename_i hw; rw [if_pos hw]; exact ⟨b, r', rfl, wi _ _ _ (by omega) (by omega) hw, rfl⟩
      · exact absurd rfl h
  match l with
  | [] => simp [step] at h2
  | a :: r =>
    simp only [step] at h2
    split at h2
    · omega
    split at h2
    · omega
    split at h2
    · obtain ⟨b, r', rfl, hb, e⟩ := s2 r (by omega)
      obtain rfl : j = 1 := by omega
      exact ⟨b, by simp, hb⟩
    split at h2
    · obtain ⟨b, c, r', rfl, hb, hc, e⟩ := s3 a r (by omega)
      rcases (show j = 1 ∨ j = 2 by omega) with rfl | rfl
      · exact ⟨b, by simp, hb⟩
      · exact ⟨c, by simp, hc⟩
    split at h2
    · obtain ⟨b, c, d, r', rfl, hb, hc, hd, e⟩ := s4 a r (by omega)
      rcases (show j = 1 ∨ j = 2 ∨ j = 3 by omega) with rfl | rfl | rfl
      · exact ⟨b, by simp, hb⟩
      · exact ⟨c, by simp, hc⟩
      · exact ⟨d, by simp, hd⟩
    · omega
theorem step_head (a : UInt8) (r : List UInt8) (h : step (a :: r) ≠ 0) : isCont a = false := by
  simp only [step] at h
  simp only [isCont, decide_eq_false_iff_not]
  intro hc
  rw [if_neg (by omega), if_pos (by omega)] at h
  exact h rfl

/-- The first character's length hangs on its own bytes alone. -/
theorem step_append (a b : List UInt8) (h : step a ≠ 0) : step (a ++ b) = step a := by
  match a with
  | [] => simp [step] at h
  | [x] => 
    simp only [step, step2, step3, step4, List.cons_append, List.nil_append] at h ⊢
    repeat' split at h
    all_goals first | contradiction | skip
    all_goals simp [*]
  | [x, y] => 
    simp only [step, step2, step3, step4, List.cons_append, List.nil_append] at h ⊢
    repeat' split at h
    all_goals first | contradiction | skip
    all_goals simp [*]
  | [x, y, z] => 
    simp only [step, step2, step3, step4, List.cons_append, List.nil_append] at h ⊢
    repeat' split at h
    all_goals first | contradiction | skip
    all_goals simp [*]
  | x :: y :: z :: t :: r => rfl
theorem step_of_append (a b : List UInt8) (hk : step (a ++ b) ≤ a.length) (h : step (a ++ b) ≠ 0) : step a = step (a ++ b) := by
  match a with
  | [] => simp at hk; exact absurd hk h
  | [x] => 
    simp only [step, List.cons_append, List.nil_append, List.length] at hk h ⊢
    have : ∀ r, step2 r = 0 ∨ step2 r = 2 := by intro r; unfold step2; split <;> (try split) <;> omega
    have t2 := this b
    have : ∀ r, step3 x r = 0 ∨ step3 x r = 3 := by intro r; unfold step3; split <;> (try split) <;> omega
    have t3 := this b
    have : ∀ r, step4 x r = 0 ∨ step4 x r = 4 := by intro r; unfold step4; split <;> (try split) <;> omega
    have t4 := this b
    split
    · rfl
    split
    · rfl
    rename_i h1 h2
    rw [if_neg h1, if_neg h2] at h hk
    split at h
    · rename_i h3; rw [if_pos h3] at hk; omega
    rename_i h3
    rw [if_neg h3] at hk
    split at h
    · rename_i h4; rw [if_pos h4] at hk; omega
    rename_i h4
    rw [if_neg h4] at hk
    split at h
    · rename_i h5; rw [if_pos h5] at hk; omega
    · omega
  | [x, y] => 
    simp only [step, List.cons_append, List.nil_append, List.length] at hk h ⊢
    have : ∀ r, step3 x r = 0 ∨ step3 x r = 3 := by intro r; unfold step3; split <;> (try split) <;> omega
    have t3 := this (y :: b)
    have : ∀ r, step4 x r = 0 ∨ step4 x r = 4 := by intro r; unfold step4; split <;> (try split) <;> omega
    have t4 := this (y :: b)
    split
    · rfl
    split
    · rfl
    split
    · rfl
    rename_i h1 h2 h3
    rw [if_neg h1, if_neg h2, if_neg h3] at h hk
    split at h
    · rename_i h4; rw [if_pos h4] at hk; omega
    · rename_i h4; rw [if_neg h4] at hk; split at h
      · rename_i h5; rw [if_pos h5] at hk; omega
      · omega
  | [x, y, z] => 
    simp only [step, List.cons_append, List.nil_append, List.length] at hk h ⊢
    have : ∀ r, step4 x r = 0 ∨ step4 x r = 4 := by intro r; unfold step4; split <;> (try split) <;> omega
    have t4 := this (y :: z :: b)
    split
    · rfl
    split
    · rfl
    split
    · rfl
    split
    · rfl
    rename_i h1 h2 h3 h4
    rw [if_neg h1, if_neg h2, if_neg h3, if_neg h4] at h hk
    split at h
    · rename_i h5; rw [if_pos h5] at hk; omega
    · omega
  | x :: y :: z :: t :: r => rfl

/-- Cut ahead of a byte that begins a character (or at the end) both halves are valid. -/
theorem valid_cut (n : Nat) : ∀ (a b : List UInt8), a.length ≤ n → (∀ x, b[0]? = some x → isCont x = false) → valid (a ++ b) = true → valid a = true ∧ valid b = true := by
  induction n with
  | zero =>
    intro a b h _ hv
    match a, h with
    | [], _ => exact ⟨rfl, by simpa using hv⟩
  | succ n ih =>
    intro a b h hb hv
    match a with
    | [] => exact ⟨rfl, by simpa using hv⟩
    | x :: r =>
      rw [valid_ne _ (by simp)] at hv
      simp only [Bool.and_eq_true, bne_iff_ne, ne_eq] at hv
      obtain ⟨h0, h1⟩ := hv
      by_cases hk : step (x :: r ++ b) ≤ (x :: r).length
      · have e := step_of_append (x :: r) b hk h0
        rw [List.drop_append_of_le_length hk] at h1
        obtain ⟨i1, i2⟩ := ih _ b (by simp only [List.length_drop, List.length_cons] at *; omega) hb h1
        refine ⟨?_, i2⟩
        rw [valid_ne _ (by simp), e]
        simp only [Bool.and_eq_true, bne_iff_ne, ne_eq]
        exact ⟨h0, i1⟩
      · obtain ⟨c, hc, hcc⟩ := step_cont (x :: r ++ b) (x :: r).length (by simp) (by omega)
        rw [List.getElem?_append_right (Nat.le_refl _), Nat.sub_self] at hc
        rw [hb c hc] at hcc
        exact absurd hcc (by simp)

theorem valid_join (n : Nat) : ∀ (a b : List UInt8), a.length ≤ n → valid a = true → valid b = true → valid (a ++ b) = true := by
  induction n with
  | zero =>
    intro a b h _ hv
    match a, h with
    | [], _ => simpa using hv
  | succ n ih =>
    intro a b h ha hb
    match a with
    | [] => simpa using hb
    | x :: r =>
      rw [valid_ne _ (by simp)] at ha ⊢
      simp only [Bool.and_eq_true, bne_iff_ne, ne_eq] at ha ⊢
      obtain ⟨h0, h1⟩ := ha
      have e := step_append (x :: r) b h0
      rw [e]
      refine ⟨h0, ?_⟩
      rw [List.drop_append_of_le_length (step_le _)]
      exact ih _ b (by simp only [List.length_drop, List.length_cons] at *; omega) h1 hb

/-- Among four bytes on end of a valid text one begins a character. -/
theorem valid_four (n : Nat) : ∀ (l : List UInt8) (i : Nat), l.length ≤ n → valid l = true → i + 3 < l.length → ∃ j b, i ≤ j ∧ j ≤ i + 3 ∧ l[j]? = some b ∧ isCont b = false := by
  induction n with
  | zero => intro l i h _ hi; omega
  | succ n ih =>
    intro l i h hv hi
    match l with
    | [] => simp at hi
    | x :: r =>
      rw [valid_ne _ (by simp)] at hv
      simp only [Bool.and_eq_true, bne_iff_ne, ne_eq] at hv
      obtain ⟨h0, h1⟩ := hv
      have h4 := step_le4 (x :: r)
      by_cases hi0 : i = 0
      · subst hi0
        exact ⟨0, x, by omega, by omega, by simp, step_head x r h0⟩
      by_cases hk : i < step (x :: r)
      · -- the next character begins at 'step'
        match hd : (x :: r).drop (step (x :: r)) with
        | [] => have := congrArg List.length hd; simp only [List.length_drop, List.length_nil] at this; omega
        | y :: r' =>
          refine ⟨step (x :: r), y, by omega, by omega, ?_, ?_⟩
          · have : ((x :: r).drop (step (x :: r)))[0]? = some y := by rw [hd]; rfl
            rw [List.getElem?_drop] at this
            simpa using this
          · rw [hd, valid_ne _ (by simp)] at h1
            simp only [Bool.and_eq_true, bne_iff_ne, ne_eq] at h1
            exact step_head y r' h1.1
      · obtain ⟨j, b, j1, j2, jb, hb⟩ := ih _ (i - step (x :: r)) (by simp only [List.length_drop, List.length_cons] at *; omega) h1 (by simp only [List.length_drop]; omega)
        refine ⟨step (x :: r) + j, b, by omega, by omega, ?_, hb⟩
        rw [List.getElem?_drop] at jb
        exact jb
end Go.Proofs.Qxb6003389a.Utf
