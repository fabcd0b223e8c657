import Derived.Test.Qxb6003389aValidA
namespace Go.Proofs.Qxb6003389a
open Go.RowKit

theorem ret_bool {a b : Bool} (h : a = b) : Ending.returned (.bool a) = .returned (.bool b) := by rw [h]

set_option maxRecDepth 3000 in
set_option maxHeartbeats 4000000 in
theorem valid_any (s : ByteArray) (w : World) (hm : s.size ≤ 1048581) :
    Calls Try.prog 14 #[.string s] w fun e w' => e = .returned (.bool (Utf.valid s.data.toList)) ∧ w' = w := by
  go_enter Try.func14, Try.ntmps14
  go_wp2
  go_loop [3] (fun a => ∃ k : Nat, k ≤ s.size ∧ a = .int .i64 k ∧ Hid (Utf.valid (dl s k) = Utf.valid s.data.toList)) (fun a => s.size - (intOf a).toNat)
  case atStart => exact ⟨0, by omega, rfl, rfl⟩
  case round =>
    obtain ⟨k, hk, rfl, hv⟩ := hrel
    by_cases hks : k < s.size
    · obtain ⟨c0, hs0⟩ : ∃ c, s[k] = c := ⟨_, rfl⟩
      rcases (show (c0.toNat : Int) < 128 ∨ (128 ≤ (c0.toNat : Int) ∧ (c0.toNat : Int) < 194) ∨ (194 ≤ (c0.toNat : Int) ∧ (c0.toNat : Int) < 224) ∨ (224 ≤ (c0.toNat : Int) ∧ (c0.toNat : Int) < 240) ∨ (240 ≤ (c0.toNat : Int) ∧ (c0.toNat : Int) < 245) ∨ 245 ≤ (c0.toNat : Int) from by omega) with hc | ⟨hc, hd⟩ | ⟨hc, hd⟩ | ⟨hc, hd⟩ | ⟨hc, hd⟩ | hc
      · have d128 : decide ((c0.toNat : Int) < 128) = true := decide_eq_true (by omega)
        have d194 : decide ((c0.toNat : Int) < 194) = true := decide_eq_true (by omega)
        have d224 : decide ((c0.toNat : Int) < 224) = true := decide_eq_true (by omega)
        have d240 : decide ((c0.toNat : Int) < 240) = true := decide_eq_true (by omega)
        have d245 : decide ((c0.toNat : Int) < 245) = true := decide_eq_true (by omega)
        go_wp2_with fail
        go_round
        case rel => exact ⟨k + 1, by omega, by go_num, by subst hs0; exact (v1 s k hks hc).symm.trans hv.out⟩
        case measure => simp [intOf]; omega
      · have d128 : decide ((c0.toNat : Int) < 128) = false := decide_eq_false (by omega)
        have d194 : decide ((c0.toNat : Int) < 194) = true := decide_eq_true (by omega)
        have d224 : decide ((c0.toNat : Int) < 224) = true := decide_eq_true (by omega)
        have d240 : decide ((c0.toNat : Int) < 240) = true := decide_eq_true (by omega)
        have d245 : decide ((c0.toNat : Int) < 245) = true := decide_eq_true (by omega)
        have hvf : Hid (Utf.valid s.data.toList = false) := by rw [← hv.out]; subst hs0; exact v1no s k hks hc hd
        clear hc hd
        go_wp2_with fail
        go_ret
        exact ⟨ret_bool hvf.out.symm, rfl⟩
      · have d128 : decide ((c0.toNat : Int) < 128) = false := decide_eq_false (by omega)
        have d194 : decide ((c0.toNat : Int) < 194) = false := decide_eq_false (by omega)
        have d224 : decide ((c0.toNat : Int) < 224) = true := decide_eq_true (by omega)
        have d240 : decide ((c0.toNat : Int) < 240) = true := decide_eq_true (by omega)
        have d245 : decide ((c0.toNat : Int) < 245) = true := decide_eq_true (by omega)
        by_cases h1 : k + 1 < s.size
        · obtain ⟨c1, hs1⟩ : ∃ c, s[k + 1] = c := ⟨_, rfl⟩
          by_cases hb1 : inB 128 191 c1 = true
          · have hvt : Hid (Utf.valid (dl s (k + 2)) = Utf.valid s.data.toList) := by rw [← hv.out]; subst hs0 hs1; exact (v2 s k hks hc hd h1 hb1).symm
            clear hc hd
            go_wp2_with (go_at_call 25; refine (cont_any _ _ _ _).mono ?_; rintro e w' ⟨rfl, rfl⟩)
            go_round
            case rel => exact ⟨k + 2, by omega, by go_num, hvt⟩
            case measure => simp [intOf]; omega
          · have hf : inB 128 191 c1 = false := by simpa using hb1
            clear hb1
            have hvf : Hid (Utf.valid s.data.toList = false) := by rw [← hv.out]; subst hs0 hs1; exact v2no s k hks hc hd h1 hf
            clear hc hd
            go_wp2_with (go_at_call 25; refine (cont_any _ _ _ _).mono ?_; rintro e w' ⟨rfl, rfl⟩)
            go_ret
            exact ⟨ret_bool hvf.out.symm, rfl⟩
        · have hvf : Hid (Utf.valid s.data.toList = false) := by rw [← hv.out]; subst hs0; exact v2end s k hks hc hd h1
          clear hc hd
          go_wp2_with fail
          go_ret
          exact ⟨ret_bool hvf.out.symm, rfl⟩
      · have d128 : decide ((c0.toNat : Int) < 128) = false := decide_eq_false (by omega)
        have d194 : decide ((c0.toNat : Int) < 194) = false := decide_eq_false (by omega)
        have d224 : decide ((c0.toNat : Int) < 224) = false := decide_eq_false (by omega)
        have d240 : decide ((c0.toNat : Int) < 240) = true := decide_eq_true (by omega)
        have d245 : decide ((c0.toNat : Int) < 245) = true := decide_eq_true (by omega)
        rcases (show (c0.toNat : Int) = 224 ∨ (c0.toNat : Int) = 237 ∨ ((c0.toNat : Int) ≠ 224 ∧ (c0.toNat : Int) ≠ 237) from by omega) with hq | hq | ⟨hq, hr⟩
        · have hlo : Hid ((Utf.lo3 c0 : Int) = 160) := by unfold Utf.lo3; rw [if_pos (by omega)]; rfl
          have hhi : Hid ((Utf.hi3 c0 : Int) = 191) := by unfold Utf.hi3; rw [if_neg (by omega)]; rfl
          have e1 : ((c0.toNat : Int) == 224) = true := by simp; omega
          have e2 : ((c0.toNat : Int) == 237) = false := by simp; omega
          clear hq
          by_cases h1 : k + 2 < s.size
          · obtain ⟨c1, hs1⟩ : ∃ c, s[k + 1] = c := ⟨_, rfl⟩
            obtain ⟨c2, hs2⟩ : ∃ c, s[k + 2] = c := ⟨_, rfl⟩
            by_cases hb1 : inB 160 191 c1 = true
            · by_cases hb2 : inB 128 191 c2 = true
              · have hvt : Hid (Utf.valid (dl s (k + 3)) = Utf.valid s.data.toList) := by rw [← hv.out]; subst hs0 hs1 hs2; exact (v3 s k 160 191 hks hc hd hlo.out hhi.out h1 hb1 hb2).symm
                clear hc hd
                go_wp2_with (go_at_call 25; refine (cont_any _ _ _ _).mono ?_; rintro e w' ⟨rfl, rfl⟩)
                go_round
                case rel => exact ⟨k + 3, by omega, by go_num, hvt⟩
                case measure => simp [intOf]; omega
              · have hf : inB 128 191 c2 = false := by simpa using hb2
                clear hb2
                have hvf : Hid (Utf.valid s.data.toList = false) := by rw [← hv.out]; subst hs0 hs1 hs2; exact v3no s k 160 191 hks hc hd hlo.out hhi.out h1 (.inr hf)
                clear hc hd
                go_wp2_with (go_at_call 25; refine (cont_any _ _ _ _).mono ?_; rintro e w' ⟨rfl, rfl⟩)
                go_ret
                exact ⟨ret_bool hvf.out.symm, rfl⟩
            · have hf : inB 160 191 c1 = false := by simpa using hb1
              clear hb1
              have hvf : Hid (Utf.valid s.data.toList = false) := by rw [← hv.out]; subst hs0 hs1 hs2; exact v3no s k 160 191 hks hc hd hlo.out hhi.out h1 (.inl hf)
              clear hc hd
              go_wp2_with (go_at_call 25; refine (cont_any _ _ _ _).mono ?_; rintro e w' ⟨rfl, rfl⟩)
              go_ret
              exact ⟨ret_bool hvf.out.symm, rfl⟩
          · have hvf : Hid (Utf.valid s.data.toList = false) := by rw [← hv.out]; subst hs0; exact v3end s k hks hc hd h1
            clear hc hd
            go_wp2_with fail
            go_ret
            exact ⟨ret_bool hvf.out.symm, rfl⟩
        · have hlo : Hid ((Utf.lo3 c0 : Int) = 128) := by unfold Utf.lo3; rw [if_neg (by omega)]; rfl
          have hhi : Hid ((Utf.hi3 c0 : Int) = 159) := by unfold Utf.hi3; rw [if_pos (by omega)]; rfl
          have e1 : ((c0.toNat : Int) == 224) = false := by simp; omega
          have e2 : ((c0.toNat : Int) == 237) = true := by simp; omega
          clear hq
          by_cases h1 : k + 2 < s.size
          · obtain ⟨c1, hs1⟩ : ∃ c, s[k + 1] = c := ⟨_, rfl⟩
            obtain ⟨c2, hs2⟩ : ∃ c, s[k + 2] = c := ⟨_, rfl⟩
            by_cases hb1 : inB 128 159 c1 = true
            · by_cases hb2 : inB 128 191 c2 = true
              · have hvt : Hid (Utf.valid (dl s (k + 3)) = Utf.valid s.data.toList) := by rw [← hv.out]; subst hs0 hs1 hs2; exact (v3 s k 128 159 hks hc hd hlo.out hhi.out h1 hb1 hb2).symm
                clear hc hd
                go_wp2_with (go_at_call 25; refine (cont_any _ _ _ _).mono ?_; rintro e w' ⟨rfl, rfl⟩)
                go_round
                case rel => exact ⟨k + 3, by omega, by go_num, hvt⟩
                case measure => simp [intOf]; omega
              · have hf : inB 128 191 c2 = false := by simpa using hb2
                clear hb2
                have hvf : Hid (Utf.valid s.data.toList = false) := by rw [← hv.out]; subst hs0 hs1 hs2; exact v3no s k 128 159 hks hc hd hlo.out hhi.out h1 (.inr hf)
                clear hc hd
                go_wp2_with (go_at_call 25; refine (cont_any _ _ _ _).mono ?_; rintro e w' ⟨rfl, rfl⟩)
                go_ret
                exact ⟨ret_bool hvf.out.symm, rfl⟩
            · have hf : inB 128 159 c1 = false := by simpa using hb1
              clear hb1
              have hvf : Hid (Utf.valid s.data.toList = false) := by rw [← hv.out]; subst hs0 hs1 hs2; exact v3no s k 128 159 hks hc hd hlo.out hhi.out h1 (.inl hf)
              clear hc hd
              go_wp2_with (go_at_call 25; refine (cont_any _ _ _ _).mono ?_; rintro e w' ⟨rfl, rfl⟩)
              go_ret
              exact ⟨ret_bool hvf.out.symm, rfl⟩
          · have hvf : Hid (Utf.valid s.data.toList = false) := by rw [← hv.out]; subst hs0; exact v3end s k hks hc hd h1
            clear hc hd
            go_wp2_with fail
            go_ret
            exact ⟨ret_bool hvf.out.symm, rfl⟩
        · have hlo : Hid ((Utf.lo3 c0 : Int) = 128) := by unfold Utf.lo3; rw [if_neg (by omega)]; rfl
          have hhi : Hid ((Utf.hi3 c0 : Int) = 191) := by unfold Utf.hi3; rw [if_neg (by omega)]; rfl
          have e1 : ((c0.toNat : Int) == 224) = false := by simp; omega
          have e2 : ((c0.toNat : Int) == 237) = false := by simp; omega
          clear hq hr
          by_cases h1 : k + 2 < s.size
          · obtain ⟨c1, hs1⟩ : ∃ c, s[k + 1] = c := ⟨_, rfl⟩
            obtain ⟨c2, hs2⟩ : ∃ c, s[k + 2] = c := ⟨_, rfl⟩
            by_cases hb1 : inB 128 191 c1 = true
            · by_cases hb2 : inB 128 191 c2 = true
              · have hvt : Hid (Utf.valid (dl s (k + 3)) = Utf.valid s.data.toList) := by rw [← hv.out]; subst hs0 hs1 hs2; exact (v3 s k 128 191 hks hc hd hlo.out hhi.out h1 hb1 hb2).symm
                clear hc hd
                go_wp2_with (go_at_call 25; refine (cont_any _ _ _ _).mono ?_; rintro e w' ⟨rfl, rfl⟩)
                go_round
                case rel => exact ⟨k + 3, by omega, by go_num, hvt⟩
                case measure => simp [intOf]; omega
              · have hf : inB 128 191 c2 = false := by simpa using hb2
                clear hb2
                have hvf : Hid (Utf.valid s.data.toList = false) := by rw [← hv.out]; subst hs0 hs1 hs2; exact v3no s k 128 191 hks hc hd hlo.out hhi.out h1 (.inr hf)
                clear hc hd
                go_wp2_with (go_at_call 25; refine (cont_any _ _ _ _).mono ?_; rintro e w' ⟨rfl, rfl⟩)
                go_ret
                exact ⟨ret_bool hvf.out.symm, rfl⟩
            · have hf : inB 128 191 c1 = false := by simpa using hb1
              clear hb1
              have hvf : Hid (Utf.valid s.data.toList = false) := by rw [← hv.out]; subst hs0 hs1 hs2; exact v3no s k 128 191 hks hc hd hlo.out hhi.out h1 (.inl hf)
              clear hc hd
              go_wp2_with (go_at_call 25; refine (cont_any _ _ _ _).mono ?_; rintro e w' ⟨rfl, rfl⟩)
              go_ret
              exact ⟨ret_bool hvf.out.symm, rfl⟩
          · have hvf : Hid (Utf.valid s.data.toList = false) := by rw [← hv.out]; subst hs0; exact v3end s k hks hc hd h1
            clear hc hd
            go_wp2_with fail
            go_ret
            exact ⟨ret_bool hvf.out.symm, rfl⟩
      · have d128 : decide ((c0.toNat : Int) < 128) = false := decide_eq_false (by omega)
        have d194 : decide ((c0.toNat : Int) < 194) = false := decide_eq_false (by omega)
        have d224 : decide ((c0.toNat : Int) < 224) = false := decide_eq_false (by omega)
        have d240 : decide ((c0.toNat : Int) < 240) = false := decide_eq_false (by omega)
        have d245 : decide ((c0.toNat : Int) < 245) = true := decide_eq_true (by omega)
        rcases (show (c0.toNat : Int) = 240 ∨ (c0.toNat : Int) = 244 ∨ ((c0.toNat : Int) ≠ 240 ∧ (c0.toNat : Int) ≠ 244) from by omega) with hq | hq | ⟨hq, hr⟩
        · have hlo : Hid ((Utf.lo4 c0 : Int) = 144) := by unfold Utf.lo4; rw [if_pos (by omega)]; rfl
          have hhi : Hid ((Utf.hi4 c0 : Int) = 191) := by unfold Utf.hi4; rw [if_neg (by omega)]; rfl
          have e1 : ((c0.toNat : Int) == 240) = true := by simp; omega
          have e2 : ((c0.toNat : Int) == 244) = false := by simp; omega
          clear hq
          by_cases h1 : k + 3 < s.size
          · obtain ⟨c1, hs1⟩ : ∃ c, s[k + 1] = c := ⟨_, rfl⟩
            obtain ⟨c2, hs2⟩ : ∃ c, s[k + 2] = c := ⟨_, rfl⟩
            obtain ⟨c3, hs3⟩ : ∃ c, s[k + 3] = c := ⟨_, rfl⟩
            by_cases hb1 : inB 144 191 c1 = true
            · by_cases hb2 : inB 128 191 c2 = true
              · by_cases hb3 : inB 128 191 c3 = true
                · have hvt : Hid (Utf.valid (dl s (k + 4)) = Utf.valid s.data.toList) := by rw [← hv.out]; subst hs0 hs1 hs2 hs3; exact (v4 s k 144 191 hks hc hd hlo.out hhi.out h1 hb1 hb2 hb3).symm
                  clear hc hd
                  go_wp2_with (go_at_call 25; refine (cont_any _ _ _ _).mono ?_; rintro e w' ⟨rfl, rfl⟩)
                  go_round
                  case rel => exact ⟨k + 4, by omega, by go_num, hvt⟩
                  case measure => simp [intOf]; omega
                · have hf : inB 128 191 c3 = false := by simpa using hb3
                  clear hb3
                  have hvf : Hid (Utf.valid s.data.toList = false) := by rw [← hv.out]; subst hs0 hs1 hs2 hs3; exact v4no s k 144 191 hks hc hd hlo.out hhi.out h1 (.inr (.inr hf))
                  clear hc hd
                  go_wp2_with (go_at_call 25; refine (cont_any _ _ _ _).mono ?_; rintro e w' ⟨rfl, rfl⟩)
                  go_ret
                  exact ⟨ret_bool hvf.out.symm, rfl⟩
              · have hf : inB 128 191 c2 = false := by simpa using hb2
                clear hb2
                have hvf : Hid (Utf.valid s.data.toList = false) := by rw [← hv.out]; subst hs0 hs1 hs2 hs3; exact v4no s k 144 191 hks hc hd hlo.out hhi.out h1 (.inr (.inl hf))
                clear hc hd
                go_wp2_with (go_at_call 25; refine (cont_any _ _ _ _).mono ?_; rintro e w' ⟨rfl, rfl⟩)
                go_ret
                exact ⟨ret_bool hvf.out.symm, rfl⟩
            · have hf : inB 144 191 c1 = false := by simpa using hb1
              clear hb1
              have hvf : Hid (Utf.valid s.data.toList = false) := by rw [← hv.out]; subst hs0 hs1 hs2 hs3; exact v4no s k 144 191 hks hc hd hlo.out hhi.out h1 (.inl hf)
              clear hc hd
              go_wp2_with (go_at_call 25; refine (cont_any _ _ _ _).mono ?_; rintro e w' ⟨rfl, rfl⟩)
              go_ret
              exact ⟨ret_bool hvf.out.symm, rfl⟩
          · have hvf : Hid (Utf.valid s.data.toList = false) := by rw [← hv.out]; subst hs0; exact v4end s k hks hc hd h1
            clear hc hd
            go_wp2_with fail
            go_ret
            exact ⟨ret_bool hvf.out.symm, rfl⟩
        · have hlo : Hid ((Utf.lo4 c0 : Int) = 128) := by unfold Utf.lo4; rw [if_neg (by omega)]; rfl
          have hhi : Hid ((Utf.hi4 c0 : Int) = 143) := by unfold Utf.hi4; rw [if_pos (by omega)]; rfl
          have e1 : ((c0.toNat : Int) == 240) = false := by simp; omega
          have e2 : ((c0.toNat : Int) == 244) = true := by simp; omega
          clear hq
          by_cases h1 : k + 3 < s.size
          · obtain ⟨c1, hs1⟩ : ∃ c, s[k + 1] = c := ⟨_, rfl⟩
            obtain ⟨c2, hs2⟩ : ∃ c, s[k + 2] = c := ⟨_, rfl⟩
            obtain ⟨c3, hs3⟩ : ∃ c, s[k + 3] = c := ⟨_, rfl⟩
            by_cases hb1 : inB 128 143 c1 = true
            · by_cases hb2 : inB 128 191 c2 = true
              · by_cases hb3 : inB 128 191 c3 = true
                · have hvt : Hid (Utf.valid (dl s (k + 4)) = Utf.valid s.data.toList) := by rw [← hv.out]; subst hs0 hs1 hs2 hs3; exact (v4 s k 128 143 hks hc hd hlo.out hhi.out h1 hb1 hb2 hb3).symm
                  clear hc hd
                  go_wp2_with (go_at_call 25; refine (cont_any _ _ _ _).mono ?_; rintro e w' ⟨rfl, rfl⟩)
                  go_round
                  case rel => exact ⟨k + 4, by omega, by go_num, hvt⟩
                  case measure => simp [intOf]; omega
                · have hf : inB 128 191 c3 = false := by simpa using hb3
                  clear hb3
                  have hvf : Hid (Utf.valid s.data.toList = false) := by rw [← hv.out]; subst hs0 hs1 hs2 hs3; exact v4no s k 128 143 hks hc hd hlo.out hhi.out h1 (.inr (.inr hf))
                  clear hc hd
                  go_wp2_with (go_at_call 25; refine (cont_any _ _ _ _).mono ?_; rintro e w' ⟨rfl, rfl⟩)
                  go_ret
                  exact ⟨ret_bool hvf.out.symm, rfl⟩
              · have hf : inB 128 191 c2 = false := by simpa using hb2
                clear hb2
                have hvf : Hid (Utf.valid s.data.toList = false) := by rw [← hv.out]; subst hs0 hs1 hs2 hs3; exact v4no s k 128 143 hks hc hd hlo.out hhi.out h1 (.inr (.inl hf))
                clear hc hd
                go_wp2_with (go_at_call 25; refine (cont_any _ _ _ _).mono ?_; rintro e w' ⟨rfl, rfl⟩)
                go_ret
                exact ⟨ret_bool hvf.out.symm, rfl⟩
            · have hf : inB 128 143 c1 = false := by simpa using hb1
              clear hb1
              have hvf : Hid (Utf.valid s.data.toList = false) := by rw [← hv.out]; subst hs0 hs1 hs2 hs3; exact v4no s k 128 143 hks hc hd hlo.out hhi.out h1 (.inl hf)
              clear hc hd
              go_wp2_with (go_at_call 25; refine (cont_any _ _ _ _).mono ?_; rintro e w' ⟨rfl, rfl⟩)
              go_ret
              exact ⟨ret_bool hvf.out.symm, rfl⟩
          · have hvf : Hid (Utf.valid s.data.toList = false) := by rw [← hv.out]; subst hs0; exact v4end s k hks hc hd h1
            clear hc hd
            go_wp2_with fail
            go_ret
            exact ⟨ret_bool hvf.out.symm, rfl⟩
        · have hlo : Hid ((Utf.lo4 c0 : Int) = 128) := by unfold Utf.lo4; rw [if_neg (by omega)]; rfl
          have hhi : Hid ((Utf.hi4 c0 : Int) = 191) := by unfold Utf.hi4; rw [if_neg (by omega)]; rfl
          have e1 : ((c0.toNat : Int) == 240) = false := by simp; omega
          have e2 : ((c0.toNat : Int) == 244) = false := by simp; omega
          clear hq hr
          by_cases h1 : k + 3 < s.size
          · obtain ⟨c1, hs1⟩ : ∃ c, s[k + 1] = c := ⟨_, rfl⟩
            obtain ⟨c2, hs2⟩ : ∃ c, s[k + 2] = c := ⟨_, rfl⟩
            obtain ⟨c3, hs3⟩ : ∃ c, s[k + 3] = c := ⟨_, rfl⟩
            by_cases hb1 : inB 128 191 c1 = true
            · by_cases hb2 : inB 128 191 c2 = true
              · by_cases hb3 : inB 128 191 c3 = true
                · have hvt : Hid (Utf.valid (dl s (k + 4)) = Utf.valid s.data.toList) := by rw [← hv.out]; subst hs0 hs1 hs2 hs3; exact (v4 s k 128 191 hks hc hd hlo.out hhi.out h1 hb1 hb2 hb3).symm
                  clear hc hd
                  go_wp2_with (go_at_call 25; refine (cont_any _ _ _ _).mono ?_; rintro e w' ⟨rfl, rfl⟩)
                  go_round
                  case rel => exact ⟨k + 4, by omega, by go_num, hvt⟩
                  case measure => simp [intOf]; omega
                · have hf : inB 128 191 c3 = false := by simpa using hb3
                  clear hb3
                  have hvf : Hid (Utf.valid s.data.toList = false) := by rw [← hv.out]; subst hs0 hs1 hs2 hs3; exact v4no s k 128 191 hks hc hd hlo.out hhi.out h1 (.inr (.inr hf))
                  clear hc hd
                  go_wp2_with (go_at_call 25; refine (cont_any _ _ _ _).mono ?_; rintro e w' ⟨rfl, rfl⟩)
                  go_ret
                  exact ⟨ret_bool hvf.out.symm, rfl⟩
              · have hf : inB 128 191 c2 = false := by simpa using hb2
                clear hb2
                have hvf : Hid (Utf.valid s.data.toList = false) := by rw [← hv.out]; subst hs0 hs1 hs2 hs3; exact v4no s k 128 191 hks hc hd hlo.out hhi.out h1 (.inr (.inl hf))
                clear hc hd
                go_wp2_with (go_at_call 25; refine (cont_any _ _ _ _).mono ?_; rintro e w' ⟨rfl, rfl⟩)
                go_ret
                exact ⟨ret_bool hvf.out.symm, rfl⟩
            · have hf : inB 128 191 c1 = false := by simpa using hb1
              clear hb1
              have hvf : Hid (Utf.valid s.data.toList = false) := by rw [← hv.out]; subst hs0 hs1 hs2 hs3; exact v4no s k 128 191 hks hc hd hlo.out hhi.out h1 (.inl hf)
              clear hc hd
              go_wp2_with (go_at_call 25; refine (cont_any _ _ _ _).mono ?_; rintro e w' ⟨rfl, rfl⟩)
              go_ret
              exact ⟨ret_bool hvf.out.symm, rfl⟩
          · have hvf : Hid (Utf.valid s.data.toList = false) := by rw [← hv.out]; subst hs0; exact v4end s k hks hc hd h1
            clear hc hd
            go_wp2_with fail
            go_ret
            exact ⟨ret_bool hvf.out.symm, rfl⟩
      · have d128 : decide ((c0.toNat : Int) < 128) = false := decide_eq_false (by omega)
        have d194 : decide ((c0.toNat : Int) < 194) = false := decide_eq_false (by omega)
        have d224 : decide ((c0.toNat : Int) < 224) = false := decide_eq_false (by omega)
        have d240 : decide ((c0.toNat : Int) < 240) = false := decide_eq_false (by omega)
        have d245 : decide ((c0.toNat : Int) < 245) = false := decide_eq_false (by omega)
        have hvf : Hid (Utf.valid s.data.toList = false) := by rw [← hv.out]; subst hs0; exact v5no s k hks hc
        clear hc
        go_wp2_with fail
        go_ret
        exact ⟨ret_bool hvf.out.symm, rfl⟩
    · go_wp2
      go_ret
      exact ⟨ret_bool (by rw [← hv.out, dl_end s k (by omega)]; rfl), rfl⟩
end Go.Proofs.Qxb6003389a
