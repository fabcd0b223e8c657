/- PLAIN: numerals in base 16 (no Go in sight). -/
namespace Go.Proofs.Qxb6003389aDoor.Hx

def dig (d : Nat) : UInt8 := if d < 10 then UInt8.ofNat (48 + d) else UInt8.ofNat (87 + d)
def dval (c : UInt8) : Nat := if c.toNat ≤ 57 then c.toNat - 48 else c.toNat - 87
def isHex (c : UInt8) : Prop := (48 ≤ c.toNat ∧ c.toNat ≤ 57) ∨ (97 ≤ c.toNat ∧ c.toNat ≤ 102)
def hval : List UInt8 → Nat
  | [] => 0
  | c :: l => dval c * 16 ^ l.length + hval l

theorem dig_nat (d : Nat) (h : d < 16) : (dig d).toNat = if d < 10 then 48 + d else 87 + d := by
  unfold dig
  split
  · rw [UInt8.toNat_ofNat']; omega
  · rw [UInt8.toNat_ofNat']; omega
theorem dig_hex (d : Nat) (h : d < 16) : isHex (dig d) := by
  unfold isHex
  rw [dig_nat d h]
  split <;> omega
theorem dig_val (d : Nat) (h : d < 16) : dval (dig d) = d := by
  unfold dval
  rw [dig_nat d h]
  split <;> split <;> omega

/-- The numeral of 'u': 1 to 6 digits, no zero ahead. -/
structure Num (l : List UInt8) (u : Nat) : Prop where
  hex : ∀ c ∈ l, isHex c
  val : hval l = u
  pos : 1 ≤ l.length
  six : l.length ≤ 6
  lead : 2 ≤ l.length → l.head? ≠ some 48

/-- As far as the loop has come: 'q' is left, 'l' is written. -/
structure Part (u q : Nat) (l : List UInt8) : Prop where
  eq : u = q * 16 ^ l.length + hval l
  hex : ∀ c ∈ l, isHex c
  one : 1 ≤ l.length → 1 ≤ q

theorem Part.start (u : Nat) : Part u u [] := ⟨by simp [hval], by simp, by simp⟩
theorem Part.five {u q : Nat} {l : List UInt8} (h : Part u q l) (hu : u ≤ 1114111) : l.length ≤ 5 := by
  apply Nat.le_of_not_lt
  intro h6
  have h1 := h.one (by omega)
  have h2 : 16 ^ 6 ≤ 16 ^ l.length := Nat.pow_le_pow_right (by decide) h6
  have h3 : 16 ^ l.length ≤ q * 16 ^ l.length := Nat.le_mul_of_pos_left _ h1
  have := h.eq
  have : (16 : Nat) ^ 6 = 16777216 := by decide
  omega
theorem Part.le {u q : Nat} {l : List UInt8} (h : Part u q l) : q ≤ u := by
  have := h.eq
  have h3 : q ≤ q * 16 ^ l.length := Nat.le_mul_of_pos_right _ (Nat.pow_pos (by decide))
  omega
theorem Part.step {u q : Nat} {l : List UInt8} (h : Part u q l) (hq : 16 ≤ q) : Part u (q / 16) (dig (q % 16) :: l) := by
  refine ⟨?_, ?_, fun _ => by omega⟩
  · rw [h.eq]
    simp only [List.length_cons, hval, dig_val _ (Nat.mod_lt q (by decide : 0 < 16))]
    rw [Nat.pow_succ, ← Nat.add_assoc, Nat.mul_comm (16 ^ l.length) 16, ← Nat.mul_assoc, ← Nat.add_mul]
    congr 2
    omega
  · intro c hc
    rcases List.mem_cons.1 hc with rfl | hc
    · exact dig_hex _ (by omega)
    · exact h.hex c hc
theorem Part.done {u q : Nat} {l : List UInt8} (h : Part u q l) (hq : q < 16) (hu : u ≤ 1114111) : Num (dig q :: l) u := by
  refine ⟨?_, ?_, by simp, by have := h.five hu; simp; omega, ?_⟩
  · intro c hc
    rcases List.mem_cons.1 hc with rfl | hc
    · exact dig_hex _ hq
    · exact h.hex c hc
  · simp only [hval, dig_val q hq]; exact h.eq.symm
  · intro h2
    simp only [List.head?_cons, ne_eq, Option.some.injEq]
    intro e
    have h1 := h.one (by simp at h2; omega)
    have := congrArg dval e
    rw [dig_val q hq] at this
    have h48 : dval 48 = 0 := by decide
    omega

/-- A rune's spelling. -/
def sp (l : List UInt8) : List UInt8 := [92, 120, 123] ++ l ++ [125]
theorem sp_len (l : List UInt8) : (sp l).length = l.length + 4 := by simp [sp]

/-- The spelling of a list of ranges, without the brackets. -/
inductive Spell : List Nat → List UInt8 → Prop
  | nil : Spell [] []
  | one {x : Nat} {l : List UInt8} {r : List Nat} {t : List UInt8} : x ≤ 1114111 → Num l x → Spell r t → Spell (x :: x :: r) (sp l ++ t)
  | two {x y : Nat} {l m : List UInt8} {r : List Nat} {t : List UInt8} : x ≠ y → x ≤ 1114111 → y ≤ 1114111 → Num l x → Num m y → Spell r t → Spell (x :: y :: r) (sp l ++ ([45] ++ (sp m ++ t)))

theorem Spell.append {a b : List Nat} {s t : List UInt8} (h : Spell a s) (k : Spell b t) : Spell (a ++ b) (s ++ t) := by
  induction h with
  | nil => exact k
  | one h1 h2 _ ih => rw [List.append_assoc]; exact .one h1 h2 ih
  | two h1 h2 h3 h4 h5 _ ih => simp only [List.append_assoc]; exact .two h1 h2 h3 h4 h5 ih
theorem Spell.one' {x : Nat} {l : List UInt8} (h1 : x ≤ 1114111) (h2 : Num l x) : Spell [x, x] (sp l) := by
  have := Spell.one h1 h2 .nil
  simpa using this
theorem Spell.two' {x y : Nat} {l m : List UInt8} (h0 : x ≠ y) (h1 : x ≤ 1114111) (h2 : y ≤ 1114111) (h3 : Num l x) (h4 : Num m y) : Spell [x, y] (sp l ++ [45] ++ sp m) := by
  have := Spell.two h0 h1 h2 h3 h4 .nil
  simpa using this
theorem Spell.len {a : List Nat} {s : List UInt8} (h : Spell a s) : 2 * s.length ≤ 21 * a.length := by
  induction h with
  | nil => simp
  | one h1 h2 _ ih => have := h2.six; simp [sp]; omega
  | two h1 h2 h3 h4 h5 _ ih => have := h4.six; have := h5.six; simp [sp]; omega
end Go.Proofs.Qxb6003389aDoor.Hx
