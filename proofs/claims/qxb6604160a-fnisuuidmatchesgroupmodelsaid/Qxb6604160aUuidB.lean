import Derived.Test.Qxb6604160aUuidA
namespace Go.Proofs.Qxb6604160a
open Go.RowKit

theorem glen_le (g : Nat) : Uuid.glen g ≤ 12 := by unfold Uuid.glen; split <;> (try split) <;> omega

set_option maxRecDepth 3000 in
set_option maxHeartbeats 2000000 in
theorem model_any (s : ByteArray) (w : World) (hs : s.size ≤ 1048576) :
    Calls Try.prog 8 #[.string s] w fun e w' => e = .returned (.bool (Uuid.gm 0 0 s.data.toList)) ∧ w' = w := by
  go_enter Try.func8, Try.ntmps8
  go_wp2
  go_loop [3, 4, 5] (fun x y z => ∃ k g r : Nat, k ≤ s.size ∧ g ≤ 4 ∧ r ≤ 12 ∧ x = .int .i64 (g : Int) ∧ y = .int .i64 (r : Int) ∧ z = .int .i64 (k : Int) ∧ Hid (Uuid.gm g r (s.data.toList.drop k) = Uuid.gm 0 0 s.data.toList)) (fun _ _ z => s.size - (intOf z).toNat)
  case atStart => exact ⟨0, 0, 0, by omega, by omega, by omega, rfl, rfl, rfl, rfl⟩
  case round =>
    obtain ⟨k, g, r, hk, hg, hr, rfl, rfl, rfl, hv⟩ := hrel
    by_cases hlt : k < s.size
    · obtain ⟨c, hc⟩ : ∃ c, s[k] = c := ⟨_, rfl⟩
      have HV : Hid ((if Uuid.dashB c then (if r = Uuid.glen g ∧ g < 4 then Uuid.gm (g + 1) 0 (s.data.toList.drop (k + 1)) else false) else if Uuid.hexB c then (if r < Uuid.glen g then Uuid.gm g (r + 1) (s.data.toList.drop (k + 1)) else false) else false) = Uuid.gm 0 0 s.data.toList) := by
        rw [← hv.out, drop_byte s k hlt c hc]; rfl
      have HD : Hid (((c.toNat : Int) == 45) = Uuid.dashB c) := dash_eq c
      have HG : Hid _ := glen_le g
      by_cases hd : Uuid.dashB c = true
      · have e45 : ((c.toNat : Int) == 45) = true := HD.out.trans hd
        have h1 := HV.out
        rw [if_pos hd] at h1
        clear hd HD HV
        by_cases hrg : r = Uuid.glen g
        · by_cases h4 : g < 4
          · rw [if_pos ⟨hrg, h4⟩] at h1
            have H1 : Hid _ := h1
            clear h1
            have HRG : Hid (Uuid.glen g = r) := hrg.symm
            clear hrg
            go_wp2_with (go_at_call 12; refine (groupLen_any g hg _).mono ?_; rw [HRG.out]; rintro e w' ⟨rfl, rfl⟩)
            go_round
            case rel => exact ⟨k + 1, g + 1, 0, by omega, by omega, by omega, by go_num, rfl, by go_num, H1⟩
            case measure => simp [intOf]; omega
          · rw [if_neg (fun hh => h4 hh.2)] at h1
            have H1 : Hid _ := h1
            clear h1
            have HRG : Hid (Uuid.glen g = r) := hrg.symm
            clear hrg
            go_wp2_with (go_at_call 12; refine (groupLen_any g hg _).mono ?_; rw [HRG.out]; rintro e w' ⟨rfl, rfl⟩)
            go_ret
            exact ⟨ret_bool H1.out, rfl⟩
        · rw [if_neg (fun hh => hrg hh.1)] at h1
          have H1 : Hid _ := h1
          clear h1
          obtain ⟨n, hn⟩ : ∃ n, n = Uuid.glen g := ⟨_, rfl⟩
          rw [← hn] at hrg
          have hne : ((r : Int) != (n : Int)) = true := by rw [bne_iff_ne]; omega
          have HNG : Hid (Uuid.glen g = n) := hn.symm
          clear hn hrg
          go_wp2_with (go_at_call 12; refine (groupLen_any g hg _).mono ?_; rw [HNG.out]; rintro e w' ⟨rfl, rfl⟩)
          go_ret
          exact ⟨ret_bool H1.out, rfl⟩
      · have hd' : Uuid.dashB c = false := by simpa using hd
        have e45 : ((c.toNat : Int) == 45) = false := HD.out.trans hd'
        have h1 := HV.out
        rw [if_neg hd] at h1
        clear hd hd' HD HV
        obtain ⟨n, hn⟩ : ∃ n, n = Uuid.glen g := ⟨_, rfl⟩
        rw [← hn] at h1
        have hn12 : n ≤ 12 := by rw [hn]; exact glen_le g
        have HNG : Hid (Uuid.glen g = n) := hn.symm
        clear hn
        by_cases hx : Uuid.hexB c = true
        · rw [if_pos hx] at h1
          have HX : Hid _ := hx
          clear hx
          by_cases hrn : r < n
          · rw [if_pos hrn] at h1
            have H1 : Hid _ := h1
            clear h1
            go_wp2_with fail
            refine (hexDigit_any c _).mono ?_
            rw [HX.out]
            rintro e w' ⟨rfl, rfl⟩
            go_wp2_with fail
            refine (groupLen_any g hg _).mono ?_
            rw [HNG.out]
            rintro e w' ⟨rfl, rfl⟩
            go_wp2_with fail
            go_round
            case rel => exact ⟨k + 1, g, r + 1, by omega, by omega, by omega, by go_num, by go_num, by go_num, H1⟩
            case measure => simp [intOf]; omega
          · rw [if_neg hrn] at h1
            have H1 : Hid _ := h1
            clear h1
            go_wp2_with fail
            refine (hexDigit_any c _).mono ?_
            rw [HX.out]
            rintro e w' ⟨rfl, rfl⟩
            go_wp2_with fail
            refine (groupLen_any g hg _).mono ?_
            rw [HNG.out]
            rintro e w' ⟨rfl, rfl⟩
            go_wp2_with fail
            go_ret
            exact ⟨ret_bool H1.out, rfl⟩
        · rw [if_neg hx] at h1
          have H1 : Hid _ := h1
          have hx' : Uuid.hexB c = false := by simpa using hx
          have HX : Hid (Uuid.hexB c = false) := hx'
          clear h1 hx hx'
          go_wp2_with fail
          refine (hexDigit_any c _).mono ?_
          rw [HX.out]
          rintro e w' ⟨rfl, rfl⟩
          go_wp2_with fail
          go_ret
          exact ⟨ret_bool H1.out, rfl⟩
    · have HF : Hid (decide (g = 4 ∧ r = 12) = Uuid.gm 0 0 s.data.toList) := by
        rw [← hv.out, List.drop_eq_nil_of_le (by rw [size_list]; omega)]; rfl
      by_cases h4 : g = 4
      · have e4 : ((g : Int) == 4) = true := beq_iff_eq.2 (by omega)
        have H4 : Hid (((r : Int) == 12) = Uuid.gm 0 0 s.data.toList) := by
          rw [← HF.out]
          show _ = _
          rw [Bool.eq_iff_iff, beq_iff_eq, decide_eq_true_eq]; omega
        clear h4
        go_wp2
        go_ret
        exact ⟨ret_bool H4.out, rfl⟩
      · have e4 : ((g : Int) == 4) = false := beq_eq_false_iff_ne.2 (by omega)
        have H4 : Hid (false = Uuid.gm 0 0 s.data.toList) := by
          rw [← HF.out, decide_eq_false (fun hh => h4 hh.1)]; rfl
        clear h4
        go_wp2
        go_ret
        exact ⟨ret_bool H4.out, rfl⟩

set_option maxHeartbeats 400000 in
theorem law_main (s : ByteArray) (w : World) (hs : s.size ≤ 1048576) :
    Calls Try.prog 3 #[.string s] w fun e w' => e = .returned (.bool true) ∧ Grown w w' := by
  go_enter Try.func3, Try.ntmps3
  go_wp2_with fail
  refine (bytes_yes _ _ hs).mono ?_
  rintro e w' ⟨rfl, rfl⟩
  go_wp2_with fail
  refine (isUUID_any s _).mono ?_
  rintro e w' ⟨rfl, rfl⟩
  go_wp2_with fail
  refine (model_any s _ hs).mono ?_
  rintro e w' ⟨rfl, rfl⟩
  go_wp2_with fail
  go_ret
  exact ⟨ret_bool (by rw [Uuid.same]; exact beq_self_eq_true _), Grown.refl _⟩
set_option maxHeartbeats 400000 in
theorem law_huge (s : ByteArray) (w : World) (hs : ¬ s.size ≤ 1048576) (hm : s.size ≤ maxLen) :
    Calls Try.prog 3 #[.string s] w fun e w' => e = .returned (.bool true) ∧ Grown w w' := by
  go_enter Try.func3, Try.ntmps3
  go_wp2_with fail
  refine (bytes_no _ _ hs hm).mono ?_
  rintro e w' ⟨rfl, rfl⟩
  go_wp2_with fail
  go_ret
  exact ⟨rfl, Grown.refl _⟩
end Go.Proofs.Qxb6604160a
