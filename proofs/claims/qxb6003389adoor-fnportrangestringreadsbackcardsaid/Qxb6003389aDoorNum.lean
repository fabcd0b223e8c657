import Derived.Lib.ItoaMem
namespace Go.Proofs.Qxb6003389aDoor.Num

def val (l : List UInt8) : Nat := l.foldl (fun a d => a * 10 + (d.toNat - 48)) 0
theorem val_snoc (l : List UInt8) (d : UInt8) : val (l ++ [d]) = val l * 10 + (d.toNat - 48) := by simp [val]
def Digits (l : List UInt8) : Prop := ∀ d ∈ l, 48 ≤ d.toNat ∧ d.toNat ≤ 57
theorem val_lt : ∀ (l : List UInt8), Digits l → val l < 10 ^ l.length := by
  intro l
  induction h : l.length generalizing l with
  | zero => intro _; have : l = [] := List.length_eq_zero_iff.1 h; subst this; decide
  | succ n ih =>
    intro hd
    rw [← List.dropLast_concat_getLast (l := l) (by intro e; subst e; cases h)]
    rw [val_snoc, Nat.pow_succ]
    have h1 := ih l.dropLast (by simp [h]) (fun d hh => hd d ((List.dropLast_subset l) hh))
    have h2 := hd (l.getLast (by intro e; subst e; cases h)) (List.getLast_mem _)
    omega

/-- A decimal numeral of a port: one to five digits, no zero ahead. -/
def Port (l : List UInt8) (n : Nat) : Prop := 1 ≤ l.length ∧ l.length ≤ 5 ∧ (1 < l.length → l[0]?.getD 0 ≠ 48) ∧ Digits l ∧ val l = n ∧ n ≤ 65535

theorem ofNat_toNat (k : Nat) (h : k < 10) : (UInt8.ofNat (48 + k)).toNat = 48 + k := by
  simp [UInt8.toNat_ofNat']; omega

theorem dec_length : ∀ (k u : Nat), u < 10 ^ (k + 1) → (Lib.decDigits u).length ≤ k + 1
  | 0, u, h => by rw [Lib.decDigits, dif_pos (by simpa using h)]; simp
  | k + 1, u, h => by
    rw [Lib.decDigits]
    split
    · simp
    · rw [List.length_append]
      rw [Nat.pow_succ] at h
      have := dec_length k (u / 10) (by omega)
      simp only [List.length_cons, List.length_nil]; omega
theorem dec_all (u : Nat) : 1 ≤ (Lib.decDigits u).length ∧ Digits (Lib.decDigits u) ∧ val (Lib.decDigits u) = u ∧ (1 ≤ u → (Lib.decDigits u)[0]?.getD 0 ≠ 48) := by
  induction u using Nat.strongRecOn with
  | _ u ih =>
    rw [Lib.decDigits]
    split
    · rename_i h
      have e := ofNat_toNat u h
      refine ⟨by simp, ?_, ?_, ?_⟩
      · intro d hd
        simp only [List.mem_cons, List.mem_nil_iff, or_false] at hd
        subst hd; omega
      · simp only [val, List.foldl_cons, List.foldl_nil]; omega
      · intro h1 h2
        simp only [List.getElem?_cons_zero, Option.getD_some] at h2
        rw [h2] at e
        have : (48 : UInt8).toNat = 48 := rfl
        omega
    · rename_i h
      obtain ⟨i1, i2, i3, i4⟩ := ih (u / 10) (by omega)
      have e := ofNat_toNat (u % 10) (by omega)
      refine ⟨by rw [List.length_append]; omega, ?_, ?_, ?_⟩
      · intro d hd
        rcases List.mem_append.1 hd with hd | hd
        · exact i2 d hd
        · simp only [List.mem_cons, List.mem_nil_iff, or_false] at hd
          subst hd; omega
      · rw [val_snoc, i3, e]; omega
      · intro _
        rw [List.getElem?_append_left (by omega)]
        exact i4 (by omega)
theorem port_dec (n : Nat) (h : n ≤ 65535) : Port (Lib.decDigits n) n := by
  obtain ⟨a, b, c, d⟩ := dec_all n
  refine ⟨a, dec_length 4 n (by omega), fun hl => ?_, b, c, h⟩
  by_cases hn : 1 ≤ n
  · exact d hn
  · have : n = 0 := by omega
    subst this
    rw [Lib.decDigits, dif_pos (by omega)] at hl
    simp at hl
theorem port_itoa (n : Nat) (h : n ≤ 65535) : Port (Lib.itoa (n : Int)) n := by
  rw [Lib.itoa_nonneg]
  exact port_dec n h
/-- No digit is the dash. -/
theorem no_dash {l : List UInt8} (h : Digits l) (i : Nat) (hi : i < l.length) : l[i]?.getD 0 ≠ 45 := by
  intro e
  have := h (l[i]) (List.getElem_mem hi)
  rw [List.getElem?_eq_getElem hi, Option.getD_some] at e
  rw [e] at this
  have : (45 : UInt8).toNat = 45 := rfl
  omega
theorem val_take (l : List UInt8) (k : Nat) (hk : k < l.length) : val (l.take (k + 1)) = val (l.take k) * 10 + ((l[k]?.getD 0).toNat - 48) := by
  rw [List.take_succ_eq_append_getElem hk, val_snoc, List.getElem?_eq_getElem hk]
  rfl
theorem take_lt {l : List UInt8} (h : Digits l) (k : Nat) (hk : k ≤ 5) : val (l.take k) ≤ 99999 := by
  have h1 := val_lt (l.take k) (fun d hd => h d (List.mem_of_mem_take hd))
  have h2 : (l.take k).length ≤ 5 := by rw [List.length_take]; omega
  have h3 : 10 ^ (l.take k).length ≤ 10 ^ 5 := Nat.pow_le_pow_right (by omega) h2
  omega
end Go.Proofs.Qxb6003389aDoor.Num
