import Derived.Test.Qxb6604683aSqlA
namespace Go.Proofs.Qxb6604683a
open Go.RowKit

theorem ret_bool {a b : Bool} (h : a = b) : Ending.returned (.bool a) = .returned (.bool b) := by rw [h]
theorem list_o (s : ByteArray) : (head14 ++ s).data.toList = [108, 105, 98, 103, 114, 97, 110, 116, 46, 114, 101, 97, 100, 95] ++ s.data.toList := by
  rw [ByteArray.data_append, Array.toList_append]; rfl
theorem list_v (o x : ByteArray) : (o ++ op40 ++ x ++ cl41).data.toList = o.data.toList ++ ([40] ++ (x.data.toList ++ [41])) := by
  simp only [ByteArray.data_append, Array.toList_append, List.append_assoc]; rfl
theorem piece1 (s : ByteArray) : (((head14 ++ s).extract 0 14).toList == [108, 105, 98, 103, 114, 97, 110, 116, 46, 114, 101, 97, 100, 95]) = true := by
  rw [Lib.extract_toList, list_o, beq_iff_eq]
  rfl
theorem piece2 (s : ByteArray) : (((head14 ++ s).extract 14 (14 + s.size)).toList == s.toList) = true := by
  rw [Lib.extract_toList, list_o, beq_iff_eq, Lib.toList_data, Nat.add_sub_cancel_left, Lib.size_eq]
  rw [List.drop_append_of_le_length (by simp), List.drop_eq_nil_of_le (by simp), List.nil_append]
  exact List.take_of_length_le (Nat.le_refl _)
theorem piece3 (o x : ByteArray) (n : Nat) (h : o.size = n) : (((o ++ op40 ++ x ++ cl41).extract 0 (n + 1)).toList == (o ++ op40).toList) = true := by
  rw [Lib.extract_toList, list_v, beq_iff_eq, Lib.toList_data, ByteArray.data_append, Array.toList_append, ← h, Lib.size_eq, List.drop_zero, Nat.sub_zero, ← List.append_assoc]
  rw [List.take_append_of_le_length (by simp)]
  apply List.take_of_length_le
  simp
theorem size_v (o x : ByteArray) : (o ++ op40 ++ x ++ cl41).size = o.size + x.size + 2 := by
  rw [Lib.size_eq, list_v, Lib.size_eq o, Lib.size_eq x]
  simp; omega
theorem inj_v (o x y : ByteArray) : ((o ++ op40 ++ x ++ cl41).toList == (o ++ op40 ++ y ++ cl41).toList) = (x.toList == y.toList) := by
  simp only [Lib.toList_data, list_v]
  rw [Bool.eq_iff_iff, beq_iff_eq, beq_iff_eq]
  constructor
  · intro h
    have h1 := List.append_cancel_left h
    have h2 := List.append_cancel_left h1
    exact List.append_cancel_right h2
  · intro h; rw [h]

set_option maxHeartbeats 2000000 in
theorem law_main (s x y : ByteArray) (w : World) (h : s.size + x.size + y.size ≤ 1048576) :
    Calls Try.prog 3 #[.string s, .string x, .string y] w fun e w' => e = .returned (.bool true) ∧ Grown w w' := by
  go_enter Try.func3, Try.ntmps3
  go_wp2_with fail
  refine (bytes_yes _ _ _ _ h).mono ?_
  rintro e w' ⟨rfl, rfl⟩
  go_wp2_with fail
  refine (zzreaders_any s _ (by omega)).mono ?_
  rintro e w1 ⟨rfl, hg1⟩
  obtain ⟨o, ho⟩ : ∃ o, o = head14 ++ s := ⟨_, rfl⟩
  rw [← ho]
  have HO : Hid (o = head14 ++ s) := ho
  have G1 : Hid (Grown w' w1) := hg1
  clear ho hg1
  go_wp2_with fail
  refine (zzvalue_any s x _ (by omega) (by omega)).mono ?_
  rintro e w2 ⟨rfl, hg2⟩
  have G2 : Hid (Grown w' w2) := Grown.trans G1.out hg2
  rw [← HO.out]
  obtain ⟨v1, hv1⟩ : ∃ v1, v1 = o ++ op40 ++ x ++ cl41 := ⟨_, rfl⟩
  rw [← hv1]
  have HV1 : Hid (v1 = o ++ op40 ++ x ++ cl41) := hv1
  clear hv1 hg2
  go_wp2_with fail
  refine (zzvalue_any s y _ (by omega) (by omega)).mono ?_
  rintro e w3 ⟨rfl, hg3⟩
  have G3 : Hid (Grown w' w3) := Grown.trans G2.out hg3
  rw [← HO.out]
  obtain ⟨v2, hv2⟩ : ∃ v2, v2 = o ++ op40 ++ y ++ cl41 := ⟨_, rfl⟩
  rw [← hv2]
  have HV2 : Hid (v2 = o ++ op40 ++ y ++ cl41) := hv2
  clear hv2 hg3
  have z1 : o.size = 14 + s.size := by rw [HO.out]; simp [head14]; rfl
  have z2 : v1.size = 16 + s.size + x.size := by rw [HV1.out, size_v, z1]; omega
  have z3 : v2.size = 16 + s.size + y.size := by rw [HV2.out, size_v, z1]; omega
  have f1 : ((o.extract 0 14).toList == [108, 105, 98, 103, 114, 97, 110, 116, 46, 114, 101, 97, 100, 95]) = true := by rw [HO.out]; exact piece1 s
  have f2 : ((o.extract 14 (14 + s.size)).toList == s.toList) = true := by rw [HO.out]; exact piece2 s
  have f3 : ((o ++ ess).toList == (o ++ { data := #[115] }).toList) = true := beq_self_eq_true (o ++ ess).toList
  have f4 : ((v1.extract 0 (14 + s.size + 1)).toList == (o ++ { data := #[40] }).toList) = true := by rw [HV1.out]; exact piece3 o x _ z1
  have f5 : ((v2.extract 0 (14 + s.size + 1)).toList == (o ++ { data := #[40] }).toList) = true := by rw [HV2.out]; exact piece3 o y _ z1
  have HR : Hid ((v1.toList == v2.toList) = (x.toList == y.toList)) := by rw [HV1.out, HV2.out]; exact inj_v o x y
  go_wp2
  go_ret
  exact ⟨ret_bool (by rw [HR.out]; exact beq_self_eq_true _), G3.out⟩

set_option maxHeartbeats 400000 in
theorem law_huge (s x y : ByteArray) (w : World) (hs : s.size ≤ maxLen) (hx : x.size ≤ maxLen) (hy : y.size ≤ maxLen) (h : ¬ s.size + x.size + y.size ≤ 1048576) :
    Calls Try.prog 3 #[.string s, .string x, .string y] w fun e w' => e = .returned (.bool true) ∧ Grown w w' := by
  go_enter Try.func3, Try.ntmps3
  go_wp2_with fail
  refine (bytes_no _ _ _ _ hs hx hy h).mono ?_
  rintro e w' ⟨rfl, rfl⟩
  go_wp2_with fail
  go_ret
  exact ⟨rfl, Grown.refl _⟩
end Go.Proofs.Qxb6604683a
