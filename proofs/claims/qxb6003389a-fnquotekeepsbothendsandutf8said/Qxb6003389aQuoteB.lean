import Derived.Test.Qxb6003389aQuoteA
namespace Go.Proofs.Qxb6003389a
open Go.RowKit

def contAt (s : ByteArray) (j : Nat) : Bool := (s.data.toList[j]?).any Utf.isCont
theorem contAt_of (s : ByteArray) (j : Nat) (h : j < s.size) : contAt s j = Utf.isCont s[j] := by
  unfold contAt
  rw [List.getElem?_eq_getElem (by simpa using h)]
  rfl

/-- What 'quote' cuts off: the two ends. -/
def Cuts (s : ByteArray) (h t : Nat) : Prop :=
  h ≤ 512 ∧ s.size - 512 ≤ t ∧ t ≤ s.size ∧ (∀ j, h < j → j ≤ 512 → contAt s j = true) ∧ (0 < h → contAt s h = false) ∧ (∀ j, s.size - 512 ≤ j → j < t → contAt s j = true) ∧ (t < s.size → contAt s t = false)

def dots : ByteArray := ⟨#[32, 46, 46, 46, 32]⟩

set_option maxHeartbeats 1000000 in
theorem quote_long (s : ByteArray) (w : World) (h : 1024 < s.size) (hm : s.size ≤ 1048576) :
    Calls Try.prog 24 #[.string s] w fun e w' => ∃ h t : Nat, ∃ n, e = .returned (.string (s.extract 0 h ++ dots ++ s.extract t s.size)) ∧ Cuts s h t ∧ w' = w.drewN n := by
  go_enter Try.func24, Try.ntmps24
  go_wp2
  go_loop [3] (fun a => ∃ k : Nat, k ≤ 512 ∧ a = .int .i64 k ∧ Hid (∀ j, k < j → j ≤ 512 → contAt s j = true)) (fun a => (intOf a).toNat)
  case atStart => exact ⟨512, by omega, rfl, fun j h1 h2 => by omega⟩
  case round =>
    obtain ⟨k, hk, rfl, hall⟩ := hrel
    have hks : k < s.size := by omega
    have HE : Hid (contAt s k = Utf.isCont s[k]) := contAt_of s k hks
    by_cases h0 : 0 < k
    · by_cases hc : Utf.isCont s[k] = true
      · go_wp2_with (go_at_call 27; refine (runeStart_any _ _).mono ?_; rintro e w' ⟨rfl, rfl⟩)
        go_round
        case rel =>
          refine ⟨k - 1, by omega, by go_num, fun j h1 h2 => ?_⟩
          by_cases hj : j = k
          · subst hj; rw [HE.out]; exact hc
          · exact hall.out j (by omega) h2
        case measure => simp [intOf]; omega
      · have hd : Utf.isCont s[k] = false := by simpa using hc
        clear hc
        have HX : Hid (0 < k → contAt s k = false) := fun _ => by rw [HE.out]; exact hd
        go_wp2_with (go_at_call 27; refine (runeStart_any _ _).mono ?_; rintro e w' ⟨rfl, rfl⟩)
        go_loop [4] (fun a => ∃ t : Nat, s.size - 512 ≤ t ∧ t ≤ s.size ∧ a = .int .i64 t ∧ Hid (∀ j, s.size - 512 ≤ j → j < t → contAt s j = true)) (fun a => s.size - (intOf a).toNat)
        case atStart => exact ⟨s.size - 512, by omega, by omega, by go_num, fun j h1 h2 => by omega⟩
        case round =>
          obtain ⟨t, ht1, ht2, rfl, htall⟩ := hrel
          by_cases hts : t < s.size
          · have HT : Hid (contAt s t = Utf.isCont s[t]) := contAt_of s t hts
            by_cases hc : Utf.isCont s[t] = true
            · go_wp2_with (go_at_call 27; refine (runeStart_any _ _).mono ?_; rintro e w' ⟨rfl, rfl⟩)
              go_round
              case rel =>
                refine ⟨t + 1, by omega, by omega, by go_num, fun j h1 h2 => ?_⟩
                by_cases hj : j = t
                · subst hj; rw [HT.out]; exact hc
                · exact htall.out j h1 (by omega)
              case measure => simp [intOf]; omega
            · have he : Utf.isCont s[t] = false := by simpa using hc
              clear hc
              have HY : Hid (t < s.size → contAt s t = false) := fun _ => by rw [HT.out]; exact he
              go_wp2_with (go_at_call 27; refine (runeStart_any _ _).mono ?_; rintro e w' ⟨rfl, rfl⟩)
              go_quiet (fail)
              go_wp2
              go_ret
              exact ⟨k, t, _, rfl, ⟨hk, ht1, ht2, hall.out, HX.out, htall.out, HY.out⟩, rfl⟩
          · have HY : Hid (t < s.size → contAt s t = false) := fun hh => absurd hh hts
            have he : decide ((t : Int) < (s.size : Int)) = false := decide_eq_false (by omega)
            go_wp2
            go_quiet (fail)
            go_wp2
            go_ret
            exact ⟨k, t, _, rfl, ⟨hk, ht1, ht2, hall.out, HX.out, htall.out, HY.out⟩, rfl⟩
    · have HX : Hid (0 < k → contAt s k = false) := fun hh => absurd hh h0
      have hd : decide ((0 : Int) < (k : Int)) = false := decide_eq_false (by omega)
      go_wp2
      go_loop [4] (fun a => ∃ t : Nat, s.size - 512 ≤ t ∧ t ≤ s.size ∧ a = .int .i64 t ∧ Hid (∀ j, s.size - 512 ≤ j → j < t → contAt s j = true)) (fun a => s.size - (intOf a).toNat)
      case atStart => exact ⟨s.size - 512, by omega, by omega, by go_num, fun j h1 h2 => by omega⟩
      case round =>
        obtain ⟨t, ht1, ht2, rfl, htall⟩ := hrel
        by_cases hts : t < s.size
        · have HT : Hid (contAt s t = Utf.isCont s[t]) := contAt_of s t hts
          by_cases hc : Utf.isCont s[t] = true
          · go_wp2_with (go_at_call 27; refine (runeStart_any _ _).mono ?_; rintro e w' ⟨rfl, rfl⟩)
            go_round
            case rel =>
              refine ⟨t + 1, by omega, by omega, by go_num, fun j h1 h2 => ?_⟩
              by_cases hj : j = t
              · subst hj; rw [HT.out]; exact hc
              · exact htall.out j h1 (by omega)
            case measure => simp [intOf]; omega
          · have he : Utf.isCont s[t] = false := by simpa using hc
            clear hc
            have HY : Hid (t < s.size → contAt s t = false) := fun _ => by rw [HT.out]; exact he
            go_wp2_with (go_at_call 27; refine (runeStart_any _ _).mono ?_; rintro e w' ⟨rfl, rfl⟩)
            go_quiet (fail)
            go_wp2
            go_ret
            exact ⟨k, t, _, rfl, ⟨hk, ht1, ht2, hall.out, HX.out, htall.out, HY.out⟩, rfl⟩
        · have HY : Hid (t < s.size → contAt s t = false) := fun hh => absurd hh hts
          have he : decide ((t : Int) < (s.size : Int)) = false := decide_eq_false (by omega)
          go_wp2
          go_quiet (fail)
          go_wp2
          go_ret
          exact ⟨k, t, _, rfl, ⟨hk, ht1, ht2, hall.out, HX.out, htall.out, HY.out⟩, rfl⟩
end Go.Proofs.Qxb6003389a
