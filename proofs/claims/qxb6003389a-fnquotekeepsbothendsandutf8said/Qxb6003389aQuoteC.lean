import Derived.Test.Qxb6003389aQuoteP
import Derived.Test.Qxb6003389aValidB
namespace Go.Proofs.Qxb6003389a
open Go.RowKit

set_option maxHeartbeats 400000 in
theorem zzquote_short (s : ByteArray) (w : World) (h : s.size ≤ 1024) :
    Calls Try.prog 13 #[.string s] w fun e w' => e = .returned (.string s) ∧ w' = w := by
  go_enter Try.func13, Try.ntmps13
  go_wp2_with (go_at_call 24; refine (quote_short _ _ h).mono ?_; rintro e w' ⟨rfl, rfl⟩)
  go_ret
  exact ⟨rfl, rfl⟩
set_option maxHeartbeats 400000 in
theorem zzquote_long (s : ByteArray) (w : World) (h : 1024 < s.size) (hm : s.size ≤ 1048576) :
    Calls Try.prog 13 #[.string s] w fun e w' => ∃ h t : Nat, ∃ n, e = .returned (.string (s.extract 0 h ++ dots ++ s.extract t s.size)) ∧ Cuts s h t ∧ w' = w.drewN n := by
  go_enter Try.func13, Try.ntmps13
  go_wp2_with fail
  refine (quote_long _ _ h hm).mono ?_
  rintro e w' ⟨a, b, n, rfl, hc, rfl⟩
  go_wp2
  go_ret
  exact ⟨a, b, n, rfl, hc, rfl⟩

/-- What the law looks for at 'h': the three pieces agree. -/
def Good (s o : ByteArray) (h : Nat) : Prop :=
  h + 5 ≤ o.size ∧ o.size ≤ h + 517 ∧ ((o.extract 0 h).toList == (s.extract 0 h).toList) = true ∧ ((o.extract h (h + 5)).toList == [32, 46, 46, 46, 32]) = true ∧ ((o.extract (h + 5) o.size).toList == (s.extract (s.size - (o.size - 5 - h)) s.size).toList) = true

theorem grown_drewN (w : World) (n : Nat) : Grown w (w.drewN n) := Grown.refl w

/-- The way of one round to the next: 'some' and 'tight' only ever rise. -/
theorem rise {h j : Nat} {b c : Bool} {T : Prop} (hb : h < j → T → b = true) (hc : b = true → c = true) (hh : h = j → T → c = true) : h < j + 1 → T → c = true := by
  intro a t
  by_cases e : h < j
  · exact hc (hb e t)
  · exact hh (by omega) t

theorem zzquote_law (s : ByteArray) (w : World) (hs : 1024 < s.size) (hm : s.size ≤ 1048576) :
    Calls Try.prog 13 #[.string s] w fun e w' => ∃ (o : ByteArray) (h n : Nat), e = .returned (.string o) ∧ o.size ≤ 1029 ∧ h ≤ 512 ∧ Hid (Good s o h) ∧
      Hid (Utf.valid s.data.toList = true → (509 ≤ h ∧ h + 514 ≤ o.size) ∧ Utf.valid o.data.toList = true) ∧ w' = w.drewN n := by
  refine (zzquote_long s w hs hm).mono ?_
  rintro e w' ⟨h, t, n, rfl, c, rfl⟩
  have hz := out_size s h t c hs
  have hp := pieces s h t c hs
  have hv := good_valid s h t c hs
  obtain ⟨c1, c2, c3, -⟩ := c
  refine ⟨_, h, n, rfl, by omega, c1, ⟨by omega, by omega, hp⟩, fun v => ?_, rfl⟩
  have := hv v
  exact ⟨⟨this.1.1, by omega⟩, this.2⟩

set_option maxHeartbeats 2000000 in
theorem law_long (s : ByteArray) (w : World) (hs : 1024 < s.size) (hm : s.size ≤ 1048576) :
    Calls Try.prog 4 #[.string s] w fun e w' => e = .returned (.bool true) ∧ Grown w w' := by
  go_enter Try.func4, Try.ntmps4
  go_wp2_with fail
  refine (bytesQ_yes _ _ hm).mono ?_
  rintro e w' ⟨rfl, rfl⟩
  go_wp2_with fail
  refine (zzquote_law _ _ hs hm).mono ?_
  rintro e w1 ⟨o, h, n0, rfl, ho, hh, hG, hV, rfl⟩
  go_wp2_with fail
  go_loopw [4, 5, 6] (fun a b c wr => ∃ j : Nat, ∃ b1 b2 : Bool, ∃ n : Nat, j ≤ 513 ∧ c = .int .i64 j ∧ a = .bool b1 ∧ b = .bool b2 ∧ wr = w'.drewN n ∧ Hid (h < j → True → b1 = true) ∧ Hid (h < j → (509 ≤ h ∧ h + 514 ≤ o.size) → b2 = true)) (fun _ _ c _ => 513 - (intOf c).toNat)
  case atStart => exact ⟨0, false, false, _, by omega, rfl, rfl, rfl, rfl, fun a => by omega, fun a => by omega⟩
  case round =>
    obtain ⟨j, b1, b2, n, hj, rfl, rfl, rfl, rfl, hb1, hb2⟩ := hrel
    by_cases hj2 : j ≤ 512
    · by_cases ht : j + 5 ≤ o.size
      · by_cases hu : o.size ≤ j + 517
        · by_cases e1 : ((o.extract 0 j).toList == (s.extract 0 j).toList) = true
          · by_cases e2 : ((o.extract j (j + 5)).toList == [32, 46, 46, 46, 32]) = true
            · by_cases e3 : ((o.extract (j + 5) o.size).toList == (s.extract (s.size - (o.size - 5 - j)) s.size).toList) = true
              · by_cases h1 : 509 ≤ j
                · by_cases h2 : j + 514 ≤ o.size
                  · go_wp2
                    go_quiet (fail)
                    go_wp2
                    go_roundw
                    case rel => exact ⟨j + 1, true, true, _, by omega, by go_num, rfl, rfl, rfl, fun _ _ => rfl, fun _ _ => rfl⟩
                    case measure => simp [intOf]; omega
                  · go_wp2
                    go_quiet (fail)
                    go_wp2
                    go_roundw
                    case rel => exact ⟨j + 1, true, b2, _, by omega, by go_num, rfl, rfl, rfl, fun _ _ => rfl, rise hb2.out id (fun e t => absurd t (by omega))⟩
                    case measure => simp [intOf]; omega
                · have d1 : decide ((509 : Int) ≤ (j : Int)) = false := decide_eq_false (by omega)
                  go_wp2
                  go_quiet (fail)
                  go_wp2
                  go_roundw
                  case rel => exact ⟨j + 1, true, b2, _, by omega, by go_num, rfl, rfl, rfl, fun _ _ => rfl, rise hb2.out id (fun e t => absurd t (by omega))⟩
                  case measure => simp [intOf]; omega
              · have f3 : ((o.extract (j + 5) o.size).toList == (s.extract (s.size - (o.size - 5 - j)) s.size).toList) = false := by simpa using e3
                have hne : Hid (h = j → False) := fun e => by subst e; exact e3 hG.out.2.2.2.2
                clear e3
                go_wp2
                go_quiet (fail)
                go_wp2
                go_roundw
                case rel => exact ⟨j + 1, b1, b2, _, by omega, by go_num, rfl, rfl, rfl, rise hb1.out id (fun e _ => (hne.out e).elim), rise hb2.out id (fun e _ => (hne.out e).elim)⟩
                case measure => simp [intOf]; omega
            · have f2 : ((o.extract j (j + 5)).toList == [32, 46, 46, 46, 32]) = false := by simpa using e2
              have hne : Hid (h = j → False) := fun e => by subst e; exact e2 hG.out.2.2.2.1
              clear e2
              go_wp2
              go_quiet (fail)
              go_wp2
              go_roundw
              case rel => exact ⟨j + 1, b1, b2, _, by omega, by go_num, rfl, rfl, rfl, rise hb1.out id (fun e _ => (hne.out e).elim), rise hb2.out id (fun e _ => (hne.out e).elim)⟩
              case measure => simp [intOf]; omega
          · have f1 : ((o.extract 0 j).toList == (s.extract 0 j).toList) = false := by simpa using e1
            have hne : Hid (h = j → False) := fun e => by subst e; exact e1 hG.out.2.2.1
            clear e1
            go_wp2
            go_quiet (fail)
            go_wp2
            go_roundw
            case rel => exact ⟨j + 1, b1, b2, _, by omega, by go_num, rfl, rfl, rfl, rise hb1.out id (fun e _ => (hne.out e).elim), rise hb2.out id (fun e _ => (hne.out e).elim)⟩
            case measure => simp [intOf]; omega
        · have hne : Hid (h = j → False) := fun e => by subst e; exact hu hG.out.2.1
          have d1 : decide ((o.size : Int) - 5 - (j : Int) < 0) = false := decide_eq_false (by omega)
          have d2 : decide ((512 : Int) < (o.size : Int) - 5 - (j : Int)) = true := decide_eq_true (by omega)
          go_wp2
          go_roundw
          case rel => exact ⟨j + 1, b1, b2, _, by omega, by go_num, rfl, rfl, rfl, rise hb1.out id (fun e _ => (hne.out e).elim), rise hb2.out id (fun e _ => (hne.out e).elim)⟩
          case measure => simp [intOf]; omega
      · have hne : Hid (h = j → False) := fun e => by subst e; exact ht hG.out.1
        have d1 : decide ((o.size : Int) - 5 - (j : Int) < 0) = true := decide_eq_true (by omega)
        go_wp2
        go_roundw
        case rel => exact ⟨j + 1, b1, b2, _, by omega, by go_num, rfl, rfl, rfl, rise hb1.out id (fun e _ => (hne.out e).elim), rise hb2.out id (fun e _ => (hne.out e).elim)⟩
        case measure => simp [intOf]; omega
    · obtain rfl : b1 = true := hb1.out (by omega) trivial
      have d0 : decide ((j : Int) ≤ 512) = false := decide_eq_false (by omega)
      by_cases hv : Utf.valid s.data.toList = true
      · obtain ⟨ht, hvo⟩ := hV.out hv
        obtain rfl : b2 = true := hb2.out (by omega) ht
        go_wp2_with fail
        refine (valid_any _ _ (by omega)).mono ?_
        rintro e w' ⟨rfl, rfl⟩
        go_wp2_with fail
        refine (valid_any _ _ (by omega)).mono ?_
        rintro e w' ⟨rfl, rfl⟩
        go_wp2
        go_ret
        exact ⟨rfl, grown_drewN _ _⟩
      · have hv' : Utf.valid s.data.toList = false := by simpa using hv
        clear hv
        go_wp2_with fail
        refine (valid_any _ _ (by omega)).mono ?_
        rintro e w' ⟨rfl, rfl⟩
        go_wp2
        go_ret
        exact ⟨rfl, grown_drewN _ _⟩

set_option maxHeartbeats 400000 in
theorem law_short (s : ByteArray) (w : World) (hs : s.size ≤ 1024) :
    Calls Try.prog 4 #[.string s] w fun e w' => e = .returned (.bool true) ∧ Grown w w' := by
  go_enter Try.func4, Try.ntmps4
  go_wp2_with fail
  refine (bytesQ_yes _ _ (by omega)).mono ?_
  rintro e w' ⟨rfl, rfl⟩
  go_wp2_with fail
  refine (zzquote_short _ _ hs).mono ?_
  rintro e w1 ⟨rfl, rfl⟩
  go_wp2
  go_ret
  exact ⟨rfl, Grown.refl _⟩

set_option maxHeartbeats 400000 in
theorem law_huge (s : ByteArray) (w : World) (hs : ¬ s.size ≤ 1048576) (hm : s.size ≤ maxLen) :
    Calls Try.prog 4 #[.string s] w fun e w' => e = .returned (.bool true) ∧ Grown w w' := by
  go_enter Try.func4, Try.ntmps4
  go_wp2_with fail
  refine (bytesQ_no _ _ hs hm).mono ?_
  rintro e w' ⟨rfl, rfl⟩
  go_wp2
  go_ret
  exact ⟨rfl, Grown.refl _⟩
end Go.Proofs.Qxb6003389a
