namespace Go.Proofs.Qxb6604160a.Uuid

def hexB (c : UInt8) : Bool := decide (48 ≤ c.toNat ∧ c.toNat ≤ 57 ∨ 97 ≤ c.toNat ∧ c.toNat ≤ 102 ∨ 65 ≤ c.toNat ∧ c.toNat ≤ 70)
def dashB (c : UInt8) : Bool := decide (c.toNat = 45)
def isDash (i : Nat) : Bool := decide (i = 8 ∨ i = 13 ∨ i = 18 ∨ i = 23)
def okAt (i : Nat) (c : UInt8) : Bool := if isDash i then dashB c else hexB c
def okFrom : Nat → List UInt8 → Bool
  | _, [] => true
  | i, c :: r => okAt i c && okFrom (i + 1) r
def isA (l : List UInt8) : Bool := decide (l.length = 36) && okFrom 0 l

def glen (g : Nat) : Nat := if g = 0 then 8 else if g = 4 then 12 else 4
def gm : Nat → Nat → List UInt8 → Bool
  | g, r, [] => decide (g = 4 ∧ r = 12)
  | g, r, c :: t => if dashB c then (if r = glen g ∧ g < 4 then gm (g + 1) 0 t else false) else if hexB c then (if r < glen g then gm g (r + 1) t else false) else false

def start (g : Nat) : Nat := if g = 0 then 0 else 5 * g + 4

theorem not_both {c : UInt8} (h : dashB c = true) : hexB c = false := by
  simp only [dashB, hexB, decide_eq_true_eq, decide_eq_false_iff_not] at *; omega

theorem gm_is : ∀ (t : List UInt8) (g r : Nat), g ≤ 4 → r ≤ glen g → gm g r t = (decide (start g + r + t.length = 36) && okFrom (start g + r) t)
  | [], g, r, hg, hr => by
    simp only [gm, okFrom, Bool.and_true, List.length_nil, Nat.add_zero]
    rw [decide_eq_decide]
    simp only [glen, start] at *
    rcases (show g = 0 ∨ g = 1 ∨ g = 2 ∨ g = 3 ∨ g = 4 by omega) with rfl | rfl | rfl | rfl | rfl <;> simp at * <;> omega
  | c :: t, g, r, hg, hr => by
    have hdash : isDash (start g + r) = decide (r = glen g ∧ g < 4) := by
      simp only [isDash, decide_eq_decide]
      simp only [glen, start] at *
      rcases (show g = 0 ∨ g = 1 ∨ g = 2 ∨ g = 3 ∨ g = 4 by omega) with rfl | rfl | rfl | rfl | rfl <;> simp at * <;> omega
    simp only [gm, okFrom, okAt, hdash, decide_eq_true_eq, List.length_cons]
    by_cases hd : dashB c = true
    · rw [if_pos hd]
      by_cases hc : r = glen g ∧ g < 4
      · rw [if_pos hc, if_pos hc, hd, Bool.true_and, gm_is t (g + 1) 0 (by omega) (by omega)]
        have e : start (g + 1) = start g + r + 1 := by
          simp only [glen, start] at *
          rcases (show g = 0 ∨ g = 1 ∨ g = 2 ∨ g = 3 by omega) with rfl | rfl | rfl | rfl <;> simp at * <;> omega
        rw [Nat.add_zero, e, show start g + r + 1 + t.length = start g + r + (t.length + 1) from by omega]
      · rw [if_neg hc, if_neg hc, not_both hd]; simp
    · rw [if_neg hd]
      have hd' : dashB c = false := by simpa using hd
      by_cases hx : hexB c = true
      · rw [if_pos hx]
        by_cases hr2 : r < glen g
        · rw [if_pos hr2, if_neg (by omega), hx, Bool.true_and, gm_is t g (r + 1) hg (by omega)]
          rw [show start g + (r + 1) = start g + r + 1 from by omega, show start g + r + 1 + t.length = start g + r + (t.length + 1) from by omega]
        · rw [if_neg hr2]
          by_cases h4 : g < 4
          · rw [if_pos ⟨by omega, h4⟩, hd']; simp
          · obtain rfl : g = 4 := by omega
            have : start 4 + r + (t.length + 1) ≠ 36 := by simp only [glen, start] at *; simp at *; omega
            rw [decide_eq_false this]; rfl
      · have hx' : hexB c = false := by simpa using hx
        rw [if_neg hx, hd', hx']
        simp

theorem same (l : List UInt8) : isA l = gm 0 0 l := by
  rw [gm_is l 0 0 (by omega) (by simp [glen])]
  simp [isA, start]
end Go.Proofs.Qxb6604160a.Uuid
