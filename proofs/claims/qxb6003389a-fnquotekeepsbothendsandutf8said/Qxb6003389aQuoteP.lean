import Derived.Test.Qxb6003389aQuoteB
import Derived.Lib.Strings
namespace Go.Proofs.Qxb6003389a
open Go.RowKit

theorem list_of (s : ByteArray) (h t : Nat) : (s.extract 0 h ++ dots ++ s.extract t s.size).data.toList = s.data.toList.take h ++ [32, 46, 46, 46, 32] ++ s.data.toList.drop t := by
  simp only [ByteArray.data_append, Array.toList_append, Lib.extract_data, List.drop_zero, Nat.sub_zero]
  have e : (s.data.toList.drop t).take (s.size - t) = s.data.toList.drop t := by
    apply List.take_of_length_le
    rw [Lib.size_eq, List.length_drop]
    exact Nat.le_refl _
  rw [e]
  rfl

theorem out_size (s : ByteArray) (h t : Nat) (c : Cuts s h t) (hs : 1024 < s.size) : (s.extract 0 h ++ dots ++ s.extract t s.size).size = h + 5 + (s.size - t) := by
  obtain ⟨c1, c2, c3, -⟩ := c
  rw [Lib.size_eq, list_of]
  have := Lib.size_eq s
  simp only [List.length_append, List.length_take, List.length_drop, List.length_cons, List.length_nil]
  omega

theorem pieces (s : ByteArray) (h t : Nat) (c : Cuts s h t) (hs : 1024 < s.size) :
    (((s.extract 0 h ++ dots ++ s.extract t s.size).extract 0 h).toList == (s.extract 0 h).toList) = true ∧
    (((s.extract 0 h ++ dots ++ s.extract t s.size).extract h (h + 5)).toList == [32, 46, 46, 46, 32]) = true ∧
    (((s.extract 0 h ++ dots ++ s.extract t s.size).extract (h + 5) (s.extract 0 h ++ dots ++ s.extract t s.size).size).toList == (s.extract (s.size - ((s.extract 0 h ++ dots ++ s.extract t s.size).size - 5 - h)) s.size).toList) = true := by
  have hz := out_size s h t c hs
  obtain ⟨c1, c2, c3, -⟩ := c
  have hl := Lib.size_eq s
  have hlt : (s.data.toList.take h).length = h := by rw [List.length_take]; omega
  have h2 : s.size - (h + 5 + (s.size - t) - 5 - h) = t := by omega
  refine ⟨?_, ?_, ?_⟩
  · rw [Lib.extract_toList, list_of, Lib.extract_toList]
    simp only [List.drop_zero, Nat.sub_zero, beq_iff_eq]
    rw [List.append_assoc, List.take_append_of_le_length (by omega), List.take_of_length_le (by omega)]
  · rw [Lib.extract_toList, list_of]
    simp only [beq_iff_eq]
    rw [List.append_assoc, List.drop_append_of_le_length (by omega), List.drop_eq_nil_of_le (by omega), show h + 5 - h = 5 from by omega]
    rfl
  · rw [Lib.extract_toList, list_of, Lib.extract_toList, hz, h2]
    simp only [beq_iff_eq]
    rw [List.drop_append, List.drop_eq_nil_of_le (by simp only [List.length_append, hlt, List.length_cons, List.length_nil]; omega)]
    simp only [List.length_append, hlt, List.length_cons, List.length_nil, List.nil_append]
    rw [show h + 5 - (h + (0 + 1 + 1 + 1 + 1 + 1)) = 0 from by omega, List.drop_zero]
    rw [show h + 5 + (s.size - t) - (h + 5) = s.size - t from by omega]

theorem contAt_some (s : ByteArray) (j : Nat) (b : UInt8) (h : s.data.toList[j]? = some b) : contAt s j = Utf.isCont b := by
  unfold contAt; rw [h]; rfl

theorem good_valid (s : ByteArray) (h t : Nat) (c : Cuts s h t) (hs : 1024 < s.size) (hv : Utf.valid s.data.toList = true) :
    (509 ≤ h ∧ 509 ≤ s.size - t) ∧ Utf.valid (s.extract 0 h ++ dots ++ s.extract t s.size).data.toList = true := by
  obtain ⟨c1, c2, c3, c4, c5, c6, c7⟩ := c
  have hl := Lib.size_eq s
  have a1 : 509 ≤ h := by
    obtain ⟨j, b, j1, j2, jb, hb⟩ := Utf.valid_four _ s.data.toList 509 (Nat.le_refl _) hv (by omega)
    rw [← contAt_some s j b jb] at hb
    by_cases hh : h < j
    · rw [c4 j hh (by omega)] at hb; exact absurd hb (by simp)
    · omega
  have a2 : 509 ≤ s.size - t := by
    obtain ⟨j, b, j1, j2, jb, hb⟩ := Utf.valid_four _ s.data.toList (s.size - 512) (Nat.le_refl _) hv (by omega)
    rw [← contAt_some s j b jb] at hb
    by_cases hh : j < t
    · rw [c6 j (by omega) hh] at hb; exact absurd hb (by simp)
    · omega
  refine ⟨⟨a1, a2⟩, ?_⟩
  rw [list_of]
  have v1 := Utf.valid_cut _ (s.data.toList.take h) (s.data.toList.drop h) (Nat.le_refl _) (by
    intro x hx
    rw [List.getElem?_drop, Nat.add_zero] at hx
    rw [← contAt_some s h x hx]
    exact c5 (by omega)) (by rw [List.take_append_drop]; exact hv)
  have v2 := Utf.valid_cut _ (s.data.toList.take t) (s.data.toList.drop t) (Nat.le_refl _) (by
    intro x hx
    rw [List.getElem?_drop, Nat.add_zero] at hx
    rw [← contAt_some s t x hx]
    exact c7 (by omega)) (by rw [List.take_append_drop]; exact hv)
  have v3 : Utf.valid [32, 46, 46, 46, 32] = true := by decide
  exact Utf.valid_join _ _ _ (Nat.le_refl _) (Utf.valid_join _ _ _ (Nat.le_refl _) v1.1 v3) v2.2
end Go.Proofs.Qxb6003389a
