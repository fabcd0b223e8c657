/- PLAIN: numerals in base 16 read from the left. -/
import Derived.Test.Qxb6003389aDoorHex
namespace Go.Proofs.Qxb6003389aDoor.Hx

theorem hval_snoc (l : List UInt8) (c : UInt8) : hval (l ++ [c]) = hval l * 16 + dval c := by
  induction l with
  | nil => simp [hval]
  | cons d l ih =>
    simp only [List.cons_append, hval, ih, List.length_append, List.length_cons, List.length_nil, Nat.zero_add]
    rw [Nat.pow_succ, Nat.add_mul, Nat.mul_assoc, Nat.add_assoc]

theorem dval_lt (c : UInt8) (h : isHex c) : dval c < 16 := by
  unfold dval
  unfold isHex at h
  split <;> omega

theorem hval_lt (l : List UInt8) (h : ∀ c ∈ l, isHex c) : hval l < 16 ^ l.length := by
  induction l with
  | nil => simp [hval]
  | cons d l ih =>
    have h1 := ih (fun c hc => h c (List.mem_cons_of_mem _ hc))
    have h2 := dval_lt d (h d List.mem_cons_self)
    simp only [hval, List.length_cons, Nat.pow_succ]
    have h3 : dval d * 16 ^ l.length ≤ 15 * 16 ^ l.length := Nat.mul_le_mul_right _ (by omega)
    omega

/-- As far as the reader has come. -/
theorem Num.take {l : List UInt8} {x : Nat} (h : Num l x) (k : Nat) (hk : k < l.length) :
    hval (l.take (k + 1)) = hval (l.take k) * 16 + dval l[k] ∧ hval (l.take k) < 16777216 ∧ isHex l[k] ∧ k ≤ 5 := by
  have h6 := h.six
  refine ⟨by rw [List.take_succ_eq_append_getElem hk, hval_snoc], ?_, h.hex _ (List.getElem_mem hk), by omega⟩
  have h1 := hval_lt (l.take k) (fun c hc => h.hex c (List.mem_of_mem_take hc))
  have h2 : (l.take k).length ≤ 6 := by simp; omega
  have h3 : 16 ^ (l.take k).length ≤ 16 ^ 6 := Nat.pow_le_pow_right (by decide) h2
  have : (16 : Nat) ^ 6 = 16777216 := by decide
  omega
theorem Num.end_ {l : List UInt8} {x : Nat} (h : Num l x) : hval (l.take l.length) = x := by
  rw [List.take_length]; exact h.val
end Go.Proofs.Qxb6003389aDoor.Hx
