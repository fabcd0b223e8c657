import Derived.Test.Qxb6604160aRows
import Derived.Test.Qxb6604160aUuid
import Derived.WalkKit
import Derived.WalkSpells
import Derived.WalkLawsBesides
import Derived.Outline
namespace Go.Proofs.Qxb6604160a
open Go.RowKit

theorem ret_bool {a b : Bool} (h : a = b) : Ending.returned (.bool a) = .returned (.bool b) := by rw [h]
theorem size_list (s : ByteArray) : s.data.toList.length = s.size := by show s.data.toList.length = s.data.size; simp
theorem drop_byte (s : ByteArray) (k : Nat) (h : k < s.size) (c : UInt8) (hc : s[k] = c) : s.data.toList.drop k = c :: s.data.toList.drop (k + 1) := by
  subst hc
  rw [List.drop_eq_getElem_cons (by rw [size_list]; exact h)]
  rfl
theorem dash_eq (c : UInt8) : ((c.toNat : Int) == 45) = Uuid.dashB c := by
  unfold Uuid.dashB
  rw [Bool.eq_iff_iff, beq_iff_eq, decide_eq_true_eq]; omega

theorem or_class (c : UInt8) : (decide ((97 : Int) ≤ bits .or .u8 (c.toNat : Int) 32) && decide (bits .or .u8 (c.toNat : Int) 32 ≤ 102)) = decide (97 ≤ c.toNat ∧ c.toNat ≤ 102 ∨ 65 ≤ c.toNat ∧ c.toNat ≤ 70) := by
  have : ∀ n : Fin 256, (decide ((97 : Int) ≤ bits .or .u8 (n.val : Int) 32) && decide (bits .or .u8 (n.val : Int) 32 ≤ 102)) = decide (97 ≤ n.val ∧ n.val ≤ 102 ∨ 65 ≤ n.val ∧ n.val ≤ 70) := by decide +kernel
  exact this ⟨c.toNat, c.toNat_lt⟩

set_option maxHeartbeats 400000 in
theorem groupLen_any (g : Nat) (hg : g ≤ 4) (w : World) :
    Calls Try.prog 12 #[.int .i64 (g : Int)] w fun e w' => e = .returned (.int .i64 (Uuid.glen g : Int)) ∧ w' = w := by
  rcases (show g = 0 ∨ g = 1 ∨ g = 2 ∨ g = 3 ∨ g = 4 by omega) with rfl | rfl | rfl | rfl | rfl
  all_goals
    go_enter Try.func12, Try.ntmps12
    go_wp2
    go_ret
    exact ⟨rfl, rfl⟩

set_option maxHeartbeats 400000 in
theorem hexDigit_any (c : UInt8) (w : World) :
    Calls Try.prog 13 #[.int .u8 (c.toNat : Int)] w fun e w' => e = .returned (.bool (Uuid.hexB c)) ∧ w' = w := by
  have HO : Hid _ := or_class c
  by_cases h1 : 48 ≤ c.toNat ∧ c.toNat ≤ 57
  · have HX : Hid (Uuid.hexB c = true) := by unfold Uuid.hexB; exact decide_eq_true (.inl h1)
    have g1 : (48 : Int) ≤ (c.toNat : Int) := by omega
    have g2 : (c.toNat : Int) ≤ 57 := by omega
    clear h1
    go_enter Try.func13, Try.ntmps13
    go_wp2
    go_ret
    exact ⟨ret_bool HX.out.symm, rfl⟩
  · have HX : Hid (Uuid.hexB c = decide (97 ≤ c.toNat ∧ c.toNat ≤ 102 ∨ 65 ≤ c.toNat ∧ c.toNat ≤ 70)) := by
      unfold Uuid.hexB
      show _ = _
      rw [decide_eq_decide]; omega
    have hb : 0 ≤ bits .or .u8 (c.toNat : Int) 32 ∧ bits .or .u8 (c.toNat : Int) 32 ≤ 255 := by
      have : ∀ n : Fin 256, 0 ≤ bits .or .u8 (n.val : Int) 32 ∧ bits .or .u8 (n.val : Int) 32 ≤ 255 := by decide +kernel
      exact this ⟨c.toNat, c.toNat_lt⟩
    obtain ⟨x, hx⟩ : ∃ x, bits .or .u8 (c.toNat : Int) 32 = x := ⟨_, rfl⟩
    rw [hx] at HO hb
    by_cases g1 : 97 ≤ x
    · by_cases h48 : 48 ≤ c.toNat
      · have d1 : decide ((48 : Int) ≤ (c.toNat : Int)) = true := decide_eq_true (by omega)
        have d2 : decide ((c.toNat : Int) ≤ 57) = false := decide_eq_false (by omega)
        have d3 : decide ((97 : Int) ≤ x) = true := decide_eq_true g1
        have HF : Hid (decide (x ≤ 102) = Uuid.hexB c) := by have := HO.out; rw [d3, Bool.true_and] at this; rw [HX.out, this]; rfl
        clear h1 h48
        go_enter Try.func13, Try.ntmps13
        go_wp2
        go_ret
        exact ⟨ret_bool HF.out, rfl⟩
      · have d1 : decide ((48 : Int) ≤ (c.toNat : Int)) = false := decide_eq_false (by omega)
        have d3 : decide ((97 : Int) ≤ x) = true := decide_eq_true g1
        have HF : Hid (decide (x ≤ 102) = Uuid.hexB c) := by have := HO.out; rw [d3, Bool.true_and] at this; rw [HX.out, this]; rfl
        clear h1 h48
        go_enter Try.func13, Try.ntmps13
        go_wp2
        go_ret
        exact ⟨ret_bool HF.out, rfl⟩
    · have d3 : decide ((97 : Int) ≤ x) = false := decide_eq_false g1
      have HF : Hid (false = Uuid.hexB c) := by have := HO.out; rw [d3, Bool.false_and] at this; rw [HX.out, this]; rfl
      by_cases h48 : 48 ≤ c.toNat
      · have d1 : decide ((48 : Int) ≤ (c.toNat : Int)) = true := decide_eq_true (by omega)
        have d2 : decide ((c.toNat : Int) ≤ 57) = false := decide_eq_false (by omega)
        clear h1 h48
        go_enter Try.func13, Try.ntmps13
        go_wp2
        go_ret
        exact ⟨ret_bool HF.out, rfl⟩
      · have d1 : decide ((48 : Int) ≤ (c.toNat : Int)) = false := decide_eq_false (by omega)
        clear h1 h48
        go_enter Try.func13, Try.ntmps13
        go_wp2
        go_ret
        exact ⟨ret_bool HF.out, rfl⟩

set_option maxHeartbeats 400000 in
theorem bytes_yes (s : ByteArray) (w : World) (h : s.size ≤ 1048576) :
    Calls Try.prog 6 #[.string s] w fun e w' => e = .returned (.bool true) ∧ w' = w := by
  go_enter Try.func6, Try.ntmps6
  go_wp2
  go_ret
  exact ⟨rfl, rfl⟩
set_option maxHeartbeats 400000 in
theorem bytes_no (s : ByteArray) (w : World) (h : ¬ s.size ≤ 1048576) (hm : s.size ≤ maxLen) :
    Calls Try.prog 6 #[.string s] w fun e w' => e = .returned (.bool false) ∧ w' = w := by
  unfold maxLen at hm
  go_enter Try.func6, Try.ntmps6
  go_wp2
  go_ret
  exact ⟨rfl, rfl⟩

set_option maxRecDepth 3000 in
set_option maxHeartbeats 2000000 in
theorem isUUID_36 (s : ByteArray) (w : World) (hs : s.size = 36) :
    Calls Try.prog 7 #[.string s] w fun e w' => e = .returned (.bool (Uuid.okFrom 0 s.data.toList)) ∧ w' = w := by
  have hs1 : s.size ≤ 36 := by omega
  have hs2 : 36 ≤ s.size := by omega
  have e36 : ((s.size : Int) == 36) = true := by rw [beq_iff_eq]; omega
  clear hs
  go_enter Try.func7, Try.ntmps7
  go_wp2
  go_loop [3, 4] (fun x y => ∃ (k : Nat) (b : Bool), k ≤ s.size ∧ x = .bool b ∧ y = .int .i64 k ∧ Hid ((b && Uuid.okFrom k (s.data.toList.drop k)) = Uuid.okFrom 0 s.data.toList)) (fun _ y => s.size - (intOf y).toNat)
  case atStart => exact ⟨0, true, by omega, rfl, rfl, by show _ = _; rw [Bool.true_and, List.drop_zero]⟩
  case round =>
    obtain ⟨k, b, hk, rfl, rfl, hv⟩ := hrel
    cases b
    · go_wp2
      go_ret
      exact ⟨ret_bool (by rw [← hv.out]; rfl), rfl⟩
    · by_cases hlt : k < s.size
      · obtain ⟨c, hc⟩ : ∃ c, s[k] = c := ⟨_, rfl⟩
        have HV : Hid ((Uuid.okAt k c && Uuid.okFrom (k + 1) (s.data.toList.drop (k + 1))) = Uuid.okFrom 0 s.data.toList) := by
          rw [← hv.out, drop_byte s k hlt c hc]; rfl
        by_cases hd : Uuid.isDash k = true
        · have HE : Hid (Uuid.okAt k c = ((c.toNat : Int) == 45)) := by unfold Uuid.okAt; rw [if_pos hd, dash_eq]; rfl
          rw [HE.out] at HV
          have hd' : k = 8 ∨ k = 13 ∨ k = 18 ∨ k = 23 := by simpa [Uuid.isDash] using hd
          clear hd
          rcases hd' with e | e | e | e
          · have k8 : ((k : Int) == 8) = true := beq_iff_eq.2 (by omega)
            have k13 : ((k : Int) == 13) = false := beq_eq_false_iff_ne.2 (by omega)
            have k18 : ((k : Int) == 18) = false := beq_eq_false_iff_ne.2 (by omega)
            have k23 : ((k : Int) == 23) = false := beq_eq_false_iff_ne.2 (by omega)
            clear e
            go_wp2
            go_round
            case rel => exact ⟨k + 1, _, by omega, rfl, by go_num, HV⟩
            case measure => simp [intOf]; omega
          · have k8 : ((k : Int) == 8) = false := beq_eq_false_iff_ne.2 (by omega)
            have k13 : ((k : Int) == 13) = true := beq_iff_eq.2 (by omega)
            have k18 : ((k : Int) == 18) = false := beq_eq_false_iff_ne.2 (by omega)
            have k23 : ((k : Int) == 23) = false := beq_eq_false_iff_ne.2 (by omega)
            clear e
            go_wp2
            go_round
            case rel => exact ⟨k + 1, _, by omega, rfl, by go_num, HV⟩
            case measure => simp [intOf]; omega
          · have k8 : ((k : Int) == 8) = false := beq_eq_false_iff_ne.2 (by omega)
            have k13 : ((k : Int) == 13) = false := beq_eq_false_iff_ne.2 (by omega)
            have k18 : ((k : Int) == 18) = true := beq_iff_eq.2 (by omega)
            have k23 : ((k : Int) == 23) = false := beq_eq_false_iff_ne.2 (by omega)
            clear e
            go_wp2
            go_round
            case rel => exact ⟨k + 1, _, by omega, rfl, by go_num, HV⟩
            case measure => simp [intOf]; omega
          · have k8 : ((k : Int) == 8) = false := beq_eq_false_iff_ne.2 (by omega)
            have k13 : ((k : Int) == 13) = false := beq_eq_false_iff_ne.2 (by omega)
            have k18 : ((k : Int) == 18) = false := beq_eq_false_iff_ne.2 (by omega)
            have k23 : ((k : Int) == 23) = true := beq_iff_eq.2 (by omega)
            clear e
            go_wp2
            go_round
            case rel => exact ⟨k + 1, _, by omega, rfl, by go_num, HV⟩
            case measure => simp [intOf]; omega
        · have hnd : ¬ (k = 8 ∨ k = 13 ∨ k = 18 ∨ k = 23) := by simpa [Uuid.isDash] using hd
          have HE : Hid (Uuid.okAt k c = Uuid.hexB c) := by unfold Uuid.okAt; rw [if_neg hd]; rfl
          rw [HE.out] at HV
          have k8 : ((k : Int) == 8) = false := beq_eq_false_iff_ne.2 (by omega)
          have k13 : ((k : Int) == 13) = false := beq_eq_false_iff_ne.2 (by omega)
          have k18 : ((k : Int) == 18) = false := beq_eq_false_iff_ne.2 (by omega)
          have k23 : ((k : Int) == 23) = false := beq_eq_false_iff_ne.2 (by omega)
          clear hd hnd
          have hc256 := c.toNat_lt
          rcases (show (0 ≤ c.toNat ∧ c.toNat ≤ 47) ∨ (48 ≤ c.toNat ∧ c.toNat ≤ 57) ∨ (58 ≤ c.toNat ∧ c.toNat ≤ 64) ∨ (65 ≤ c.toNat ∧ c.toNat ≤ 70) ∨ (71 ≤ c.toNat ∧ c.toNat ≤ 96) ∨ (97 ≤ c.toNat ∧ c.toNat ≤ 102) ∨ (103 ≤ c.toNat ∧ c.toNat ≤ 255) from by omega) with ⟨q1, q2⟩ | ⟨q1, q2⟩ | ⟨q1, q2⟩ | ⟨q1, q2⟩ | ⟨q1, q2⟩ | ⟨q1, q2⟩ | ⟨q1, q2⟩
          · have HX : Hid (Uuid.hexB c = false) := by unfold Uuid.hexB; exact decide_eq_false (by omega)
            rw [HX.out] at HV
            have g48 : decide ((48 : Int) ≤ (c.toNat : Int)) = false := decide_eq_false (by omega)
            have l57 : decide ((c.toNat : Int) ≤ 57) = true := decide_eq_true (by omega)
            have g97 : decide ((97 : Int) ≤ (c.toNat : Int)) = false := decide_eq_false (by omega)
            have l102 : decide ((c.toNat : Int) ≤ 102) = true := decide_eq_true (by omega)
            have g65 : decide ((65 : Int) ≤ (c.toNat : Int)) = false := decide_eq_false (by omega)
            have l70 : decide ((c.toNat : Int) ≤ 70) = true := decide_eq_true (by omega)
            clear q1 q2 hc256
            go_wp2
            go_round
            case rel => exact ⟨k + 1, false, by omega, rfl, by go_num, HV⟩
            case measure => simp [intOf]; omega
          · have HX : Hid (Uuid.hexB c = true) := by unfold Uuid.hexB; exact decide_eq_true (by omega)
            rw [HX.out] at HV
            have g48 : decide ((48 : Int) ≤ (c.toNat : Int)) = true := decide_eq_true (by omega)
            have l57 : decide ((c.toNat : Int) ≤ 57) = true := decide_eq_true (by omega)
            have g97 : decide ((97 : Int) ≤ (c.toNat : Int)) = false := decide_eq_false (by omega)
            have l102 : decide ((c.toNat : Int) ≤ 102) = true := decide_eq_true (by omega)
            have g65 : decide ((65 : Int) ≤ (c.toNat : Int)) = false := decide_eq_false (by omega)
            have l70 : decide ((c.toNat : Int) ≤ 70) = true := decide_eq_true (by omega)
            clear q1 q2 hc256
            go_wp2
            go_round
            case rel => exact ⟨k + 1, true, by omega, rfl, by go_num, HV⟩
            case measure => simp [intOf]; omega
          · have HX : Hid (Uuid.hexB c = false) := by unfold Uuid.hexB; exact decide_eq_false (by omega)
            rw [HX.out] at HV
            have g48 : decide ((48 : Int) ≤ (c.toNat : Int)) = true := decide_eq_true (by omega)
            have l57 : decide ((c.toNat : Int) ≤ 57) = false := decide_eq_false (by omega)
            have g97 : decide ((97 : Int) ≤ (c.toNat : Int)) = false := decide_eq_false (by omega)
            have l102 : decide ((c.toNat : Int) ≤ 102) = true := decide_eq_true (by omega)
            have g65 : decide ((65 : Int) ≤ (c.toNat : Int)) = false := decide_eq_false (by omega)
            have l70 : decide ((c.toNat : Int) ≤ 70) = true := decide_eq_true (by omega)
            clear q1 q2 hc256
            go_wp2
            go_round
            case rel => exact ⟨k + 1, false, by omega, rfl, by go_num, HV⟩
            case measure => simp [intOf]; omega
          · have HX : Hid (Uuid.hexB c = true) := by unfold Uuid.hexB; exact decide_eq_true (by omega)
            rw [HX.out] at HV
            have g48 : decide ((48 : Int) ≤ (c.toNat : Int)) = true := decide_eq_true (by omega)
            have l57 : decide ((c.toNat : Int) ≤ 57) = false := decide_eq_false (by omega)
            have g97 : decide ((97 : Int) ≤ (c.toNat : Int)) = false := decide_eq_false (by omega)
            have l102 : decide ((c.toNat : Int) ≤ 102) = true := decide_eq_true (by omega)
            have g65 : decide ((65 : Int) ≤ (c.toNat : Int)) = true := decide_eq_true (by omega)
            have l70 : decide ((c.toNat : Int) ≤ 70) = true := decide_eq_true (by omega)
            clear q1 q2 hc256
            go_wp2
            go_round
            case rel => exact ⟨k + 1, true, by omega, rfl, by go_num, HV⟩
            case measure => simp [intOf]; omega
          · have HX : Hid (Uuid.hexB c = false) := by unfold Uuid.hexB; exact decide_eq_false (by omega)
            rw [HX.out] at HV
            have g48 : decide ((48 : Int) ≤ (c.toNat : Int)) = true := decide_eq_true (by omega)
            have l57 : decide ((c.toNat : Int) ≤ 57) = false := decide_eq_false (by omega)
            have g97 : decide ((97 : Int) ≤ (c.toNat : Int)) = false := decide_eq_false (by omega)
            have l102 : decide ((c.toNat : Int) ≤ 102) = true := decide_eq_true (by omega)
            have g65 : decide ((65 : Int) ≤ (c.toNat : Int)) = true := decide_eq_true (by omega)
            have l70 : decide ((c.toNat : Int) ≤ 70) = false := decide_eq_false (by omega)
            clear q1 q2 hc256
            go_wp2
            go_round
            case rel => exact ⟨k + 1, false, by omega, rfl, by go_num, HV⟩
            case measure => simp [intOf]; omega
          · have HX : Hid (Uuid.hexB c = true) := by unfold Uuid.hexB; exact decide_eq_true (by omega)
            rw [HX.out] at HV
            have g48 : decide ((48 : Int) ≤ (c.toNat : Int)) = true := decide_eq_true (by omega)
            have l57 : decide ((c.toNat : Int) ≤ 57) = false := decide_eq_false (by omega)
            have g97 : decide ((97 : Int) ≤ (c.toNat : Int)) = true := decide_eq_true (by omega)
            have l102 : decide ((c.toNat : Int) ≤ 102) = true := decide_eq_true (by omega)
            have g65 : decide ((65 : Int) ≤ (c.toNat : Int)) = true := decide_eq_true (by omega)
            have l70 : decide ((c.toNat : Int) ≤ 70) = false := decide_eq_false (by omega)
            clear q1 q2 hc256
            go_wp2
            go_round
            case rel => exact ⟨k + 1, true, by omega, rfl, by go_num, HV⟩
            case measure => simp [intOf]; omega
          · have HX : Hid (Uuid.hexB c = false) := by unfold Uuid.hexB; exact decide_eq_false (by omega)
            rw [HX.out] at HV
            have g48 : decide ((48 : Int) ≤ (c.toNat : Int)) = true := decide_eq_true (by omega)
            have l57 : decide ((c.toNat : Int) ≤ 57) = false := decide_eq_false (by omega)
            have g97 : decide ((97 : Int) ≤ (c.toNat : Int)) = true := decide_eq_true (by omega)
            have l102 : decide ((c.toNat : Int) ≤ 102) = false := decide_eq_false (by omega)
            have g65 : decide ((65 : Int) ≤ (c.toNat : Int)) = true := decide_eq_true (by omega)
            have l70 : decide ((c.toNat : Int) ≤ 70) = false := decide_eq_false (by omega)
            clear q1 q2 hc256
            go_wp2
            go_round
            case rel => exact ⟨k + 1, false, by omega, rfl, by go_num, HV⟩
            case measure => simp [intOf]; omega
      · go_wp2
        go_ret
        exact ⟨ret_bool (by rw [← hv.out, List.drop_eq_nil_of_le (by rw [size_list]; omega)]; rfl), rfl⟩

set_option maxHeartbeats 400000 in
theorem isUUID_no (s : ByteArray) (w : World) (hs : s.size ≠ 36) :
    Calls Try.prog 7 #[.string s] w fun e w' => e = .returned (.bool false) ∧ w' = w := by
  have e36 : ((s.size : Int) == 36) = false := beq_eq_false_iff_ne.2 (by omega)
  clear hs
  go_enter Try.func7, Try.ntmps7
  go_wp2
  refine wp_loop_rounds 1 ?_
  rw [rounds_succ]
  go_wp2
  go_ret
  exact ⟨rfl, rfl⟩
theorem isUUID_any (s : ByteArray) (w : World) :
    Calls Try.prog 7 #[.string s] w fun e w' => e = .returned (.bool (Uuid.isA s.data.toList)) ∧ w' = w := by
  unfold Uuid.isA
  rw [size_list]
  by_cases h : s.size = 36
  · rw [decide_eq_true h, Bool.true_and]; exact isUUID_36 s w h
  · rw [decide_eq_false h, Bool.false_and]; exact isUUID_no s w h
end Go.Proofs.Qxb6604160a
