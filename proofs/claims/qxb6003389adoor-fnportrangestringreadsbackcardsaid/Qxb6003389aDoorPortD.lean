import Derived.Test.Qxb6003389aDoorPortC
namespace Go.Proofs.Qxb6003389aDoor
open Go.RowKit

/-- The text 'o' reads back as 'lo' and 'hi'; it is empty just for every port. -/
def Back (o : ByteArray) (lo hi : Nat) : Prop :=
  (∀ w, Calls Tryd.prog 29 #[.string o] w fun e w' => e = .returned (.tuple #[.int .i64 (lo : Int), .int .i64 (hi : Int), .bool true]) ∧ w' = w) ∧ o.toList.isEmpty = ((lo : Int) == 0 && (hi : Int) == 65535)

theorem text_list (n : Nat) : (Text n).data.toList = Lib.itoa (n : Int) := by show (Lib.itoa (n : Int)).toArray.toList = _; simp
theorem text_ne (n : Nat) (h : n ≤ 65535) : Lib.itoa (n : Int) ≠ [] := by
  intro e
  have := (Num.port_itoa n h).1
  rw [e] at this
  simp at this

theorem string_any (lo hi : Nat) (hle : lo ≤ hi) (hn : hi ≤ 65535) (w : World) (hT : Hid (Tab w)) :
    Calls Tryd.prog 35 #[.agg #[.int .i64 (lo : Int), .int .i64 (hi : Int)]] w fun e w' => ∃ o, e = .returned (.string o) ∧ Back o lo hi ∧ Below w.heap.size w w' := by
  by_cases c1 : lo = hi
  · subst c1
    refine (string_one lo hn w hT).mono ?_
    rintro e w' ⟨rfl, hb⟩
    have hp := Num.port_itoa lo hn
    rw [← text_list] at hp
    refine ⟨_, rfl, ⟨fun w => readPorts_one _ lo w hp, ?_⟩, hb⟩
    have e0 : ((lo : Int) == 0 && (lo : Int) == 65535) = false := by
      rw [Bool.and_eq_false_iff]
      by_cases h : lo = 0
      · exact .inr (beq_eq_false_iff_ne.2 (by omega))
      · exact .inl (beq_eq_false_iff_ne.2 (by omega))
    rw [e0, isEmpty_of _ _ (text_list lo)]
    cases hl : Lib.itoa (lo : Int) with
    | nil => exact absurd hl (text_ne lo hn)
    | cons => rfl
  · by_cases c2 : lo = 0
    · subst c2
      by_cases c3 : hi = 65535
      · subst c3
        refine (string_all w).mono ?_
        rintro e w' ⟨rfl, hb⟩
        exact ⟨_, rfl, ⟨fun w => readPorts_empty w, by rw [isEmpty_of _ [] rfl]; rfl⟩, hb⟩
      · refine (string_upto hi (by omega) (by omega) w hT).mono ?_
        rintro e w' ⟨rfl, hb⟩
        have hl : (dash ++ Text hi).data.toList = [] ++ 45 :: Lib.itoa (hi : Int) := by
          rw [ByteArray.data_append, Array.toList_append, text_list]; rfl
        refine ⟨_, rfl, ⟨fun w => readPorts_dash _ [] (Lib.itoa (hi : Int)) 0 hi w hl (.inl ⟨rfl, rfl⟩) (.inr (Num.port_itoa hi hn)) (.inr (text_ne hi hn)), ?_⟩, hb⟩
        have e0 : ((hi : Int) == 65535) = false := beq_eq_false_iff_ne.2 (by omega)
        rw [e0, isEmpty_of _ _ hl, Bool.and_false]
        rfl
    · have e1 : ((lo : Int) == 0) = false := beq_eq_false_iff_ne.2 (by omega)
      by_cases c3 : hi = 65535
      · subst c3
        refine (string_from lo (by omega) (by omega) w hT).mono ?_
        rintro e w' ⟨rfl, hb⟩
        have hl : (Text lo ++ dash).data.toList = Lib.itoa (lo : Int) ++ 45 :: [] := by
          rw [ByteArray.data_append, Array.toList_append, text_list]; rfl
        refine ⟨_, rfl, ⟨fun w => readPorts_dash _ (Lib.itoa (lo : Int)) [] lo 65535 w hl (.inr (Num.port_itoa lo (by omega))) (.inl ⟨rfl, rfl⟩) (.inl (text_ne lo (by omega))), ?_⟩, hb⟩
        rw [e1, isEmpty_of _ _ hl, Bool.false_and]
        cases Lib.itoa (lo : Int) <;> rfl
      · refine (string_both lo hi (by omega) (by omega) (by omega) w hT).mono ?_
        rintro e w' ⟨rfl, hb⟩
        have hl : (Text lo ++ dash ++ Text hi).data.toList = Lib.itoa (lo : Int) ++ 45 :: Lib.itoa (hi : Int) := by
          rw [ByteArray.data_append, ByteArray.data_append, Array.toList_append, Array.toList_append, text_list, text_list, List.append_assoc]; rfl
        refine ⟨_, rfl, ⟨fun w => readPorts_dash _ (Lib.itoa (lo : Int)) (Lib.itoa (hi : Int)) lo hi w hl (.inr (Num.port_itoa lo (by omega))) (.inr (Num.port_itoa hi hn)) (.inl (text_ne lo (by omega))), ?_⟩, hb⟩
        rw [e1, isEmpty_of _ _ hl, Bool.false_and]
        cases Lib.itoa (lo : Int) <;> rfl

set_option maxHeartbeats 400000 in
theorem zzport_any (lo hi : Nat) (hle : lo ≤ hi) (hn : hi ≤ 65535) (w : World) (hT : Hid (Tab w)) :
    Calls Tryd.prog 28 #[.int .i64 (lo : Int), .int .i64 (hi : Int)] w fun e w' => ∃ o, e = .returned (.string o) ∧ Back o lo hi ∧ Below w.heap.size w w' := by
  go_enter Tryd.func28, Tryd.ntmps28
  go_wp2_with fail
  refine (string_any lo hi hle hn w hT).mono ?_
  rintro e w' ⟨o, rfl, h1, h2⟩
  go_wp2_with fail
  go_ret
  exact ⟨o, rfl, h1, h2⟩

set_option maxHeartbeats 400000 in
theorem lawP_main (lo hi : Nat) (hle : lo ≤ hi) (hn : hi ≤ 65535) (w : World) (hT : Hid (Tab w)) :
    Calls Tryd.prog 7 #[.int .i64 (lo : Int), .int .i64 (hi : Int)] w fun e w' => e = .returned (.bool true) ∧ Below w.heap.size w w' := by
  have d0 : decide ((lo : Int) < 0) = false := decide_eq_false (by omega)
  have d1 : decide ((65535 : Int) < (hi : Int)) = false := decide_eq_false (by omega)
  have d2 : decide ((hi : Int) < (lo : Int)) = false := decide_eq_false (by omega)
  go_enter Tryd.func7, Tryd.ntmps7
  go_wp2_with fail
  refine (zzport_any lo hi hle hn w hT).mono ?_
  rintro e w1 ⟨o, rfl, ⟨h1, h2⟩, hb⟩
  have H1 : Hid _ := h1
  have HB : Hid (Below w.heap.size w w1) := hb
  clear h1 hb
  go_wp2_with fail
  refine (H1.out _).mono ?_
  rintro e w2 ⟨rfl, rfl⟩
  by_cases c1 : ((lo : Int) == 0) = true
  · rw [c1, Bool.true_and] at h2
    go_wp2_with fail
    go_ret
    exact ⟨rfl, HB.out⟩
  · have c2 : ((lo : Int) == 0) = false := by simpa using c1
    rw [c2, Bool.false_and] at h2
    clear c1
    go_wp2_with fail
    go_ret
    exact ⟨rfl, HB.out⟩

set_option maxHeartbeats 400000 in
theorem lawP_out (lo hi : Int) (h : lo < 0 ∨ 65535 < hi ∨ hi < lo) (w : World) :
    Calls Tryd.prog 7 #[.int .i64 lo, .int .i64 hi] w fun e w' => e = .returned (.bool true) ∧ Below w.heap.size w w' := by
  by_cases h0 : lo < 0
  · clear h
    go_enter Tryd.func7, Tryd.ntmps7
    go_wp2
    go_ret
    exact ⟨rfl, Below.refl _ _⟩
  · have d0 : decide (lo < 0) = false := decide_eq_false h0
    by_cases h1 : 65535 < hi
    · clear h
      go_enter Tryd.func7, Tryd.ntmps7
      go_wp2
      go_ret
      exact ⟨rfl, Below.refl _ _⟩
    · have d1 : decide (65535 < hi) = false := decide_eq_false h1
      have h2 : hi < lo := by omega
      clear h
      go_enter Tryd.func7, Tryd.ntmps7
      go_wp2
      go_ret
      exact ⟨rfl, Below.refl _ _⟩
end Go.Proofs.Qxb6003389aDoor
