import Derived.Test.Qxb6003389aDoorPortA
import Derived.Lib.Strings
namespace Go.Proofs.Qxb6003389aDoor
open Go.RowKit

set_option maxHeartbeats 400000 in
theorem readPorts_empty (w : World) :
    Calls Tryd.prog 29 #[.string ⟨#[]⟩] w fun e w' => e = .returned (.tuple #[.int .i64 0, .int .i64 65535, .bool true]) ∧ w' = w := by
  go_enter Tryd.func29, Tryd.ntmps29
  go_wp2
  go_ret3
  exact ⟨rfl, rfl⟩

theorem not_dash (s : ByteArray) (k : Nat) (h : k < s.size) (hn : s.data.toList[k]?.getD 0 ≠ 45) (c : UInt8) (hc : s[k] = c) : ((c.toNat : Int) == 45) = false := by
  rw [byte_at s k h, hc] at hn
  refine beq_eq_false_iff_ne.2 (fun e => hn (UInt8.toNat_inj.1 ?_))
  have : (45 : UInt8).toNat = 45 := rfl
  omega

set_option maxRecDepth 3000 in
set_option maxHeartbeats 1000000 in
theorem readPorts_one (s : ByteArray) (n : Nat) (w : World) (h : Hid (Num.Port s.data.toList n)) :
    Calls Tryd.prog 29 #[.string s] w fun e w' => e = .returned (.tuple #[.int .i64 (n : Int), .int .i64 (n : Int), .bool true]) ∧ w' = w := by
  have h1 : 1 ≤ s.size := by rw [← size_list]; exact h.out.1
  have h5 : s.size ≤ 5 := by rw [← size_list]; exact h.out.2.1
  have e0 : s.toList.isEmpty = false := by
    rw [Lib.toList_data]
    cases hl : s.data.toList with
    | nil => have := size_list s; rw [hl] at this; simp at this; omega
    | cons => rfl
  go_enter Tryd.func29, Tryd.ntmps29
  go_wp2
  go_loop [5, 6] (fun x y => ∃ k : Nat, k ≤ s.size ∧ x = .int .i64 (-1) ∧ y = .int .i64 (k : Int)) (fun _ y => s.size - (intOf y).toNat)
  case atStart => exact ⟨0, by omega, rfl, rfl⟩
  case round =>
    obtain ⟨k, hk, rfl, rfl⟩ := hrel
    by_cases hlt : k < s.size
    · obtain ⟨c, hc⟩ : ∃ c, s[k] = c := ⟨_, rfl⟩
      have hnd := not_dash s k hlt (Num.no_dash h.out.2.2.2.1 k (by rw [size_list]; exact hlt)) c hc
      go_wp2
      go_round
      case rel => exact ⟨k + 1, by omega, rfl, by go_num⟩
      case measure => simp [intOf]; omega
    · go_wp2_with fail
      refine (readPort_any s n _ h).mono ?_
      rintro e w' ⟨rfl, rfl⟩
      go_wp2
      go_ret3
      exact ⟨rfl, rfl⟩

theorem isEmpty_of (s : ByteArray) (l : List UInt8) (h : s.data.toList = l) : s.toList.isEmpty = l.isEmpty := by rw [Lib.toList_data, h]

theorem left_of {s : ByteArray} {A B : List UInt8} (h : s.data.toList = A ++ 45 :: B) : (s.extract 0 A.length).data.toList = A := by
  rw [Lib.extract_data, h]
  simp
theorem right_of {s : ByteArray} {A B : List UInt8} (h : s.data.toList = A ++ 45 :: B) : (s.extract (A.length + 1) s.size).data.toList = B := by
  rw [Lib.extract_data, Lib.size_eq, h, List.drop_append]
  rw [List.drop_eq_nil_of_le (by omega), Nat.add_sub_cancel_left]
  simp only [List.nil_append, List.drop_succ_cons, List.drop_zero]
  apply List.take_of_length_le
  simp; omega

/-- What one side of the dash says: nothing (then 'd' stands), or a port. -/
def Side (l : List UInt8) (d n : Nat) : Prop := (l = [] ∧ n = d) ∨ Num.Port l n
theorem Side.digits {l : List UInt8} {d n : Nat} (h : Side l d n) : Num.Digits l := by
  rcases h with ⟨rfl, -⟩ | h
  · intro d hd; cases hd
  · exact h.2.2.2.1
theorem Side.len {l : List UInt8} {d n : Nat} (h : Side l d n) : l.length ≤ 5 := by
  rcases h with ⟨rfl, -⟩ | h
  · simp
  · exact h.2.1

set_option maxRecDepth 3000 in
set_option maxHeartbeats 2000000 in
theorem readPorts_dash (s : ByteArray) (A B : List UInt8) (lo hi : Nat) (w : World) (hs : s.data.toList = A ++ 45 :: B) (hA : Side A 0 lo) (hB : Side B 65535 hi) (hne : A ≠ [] ∨ B ≠ []) :
    Calls Tryd.prog 29 #[.string s] w fun e w' => e = .returned (.tuple #[.int .i64 (lo : Int), .int .i64 (hi : Int), .bool true]) ∧ w' = w := by
  have hsz : s.size = A.length + 1 + B.length := by rw [← size_list, hs]; simp; omega
  have hla := hA.len
  have hlb := hB.len
  have HL : Hid ((s.extract 0 A.length).data.toList = A) := left_of hs
  have HR : Hid ((s.extract (A.length + 1) s.size).data.toList = B) := right_of hs
  have HAt : Hid (∀ k, k < s.size → k ≠ A.length → s.data.toList[k]?.getD 0 ≠ 45) := by
    intro k hk hka
    rw [hs]
    by_cases h1 : k < A.length
    · rw [List.getElem?_append_left h1]; exact Num.no_dash hA.digits k h1
    · obtain ⟨q, hq⟩ : ∃ q, k - A.length = q + 1 := ⟨k - A.length - 1, by omega⟩
      rw [List.getElem?_append_right (by omega), hq, List.getElem?_cons_succ]
      exact Num.no_dash hB.digits q (by omega)
  have HDa : Hid (s.data.toList[A.length]?.getD 0 = 45) := by
    show _ = _
    rw [hs, List.getElem?_append_right (Nat.le_refl _), Nat.sub_self]; rfl
  have e0 : s.toList.isEmpty = false := by rw [isEmpty_of s _ hs]; cases A <;> rfl
  have hlL := isEmpty_of _ _ HL.out
  have hlR := isEmpty_of _ _ HR.out
  have HA : Hid (Side A 0 lo) := hA
  have HB : Hid (Side B 65535 hi) := hB
  have HNE : Hid (A ≠ [] ∨ B ≠ []) := hne
  obtain ⟨a, ha⟩ : ∃ a, a = A.length := ⟨_, rfl⟩
  rw [← ha] at HL HR hlL HAt HDa hla hsz hlR
  have h10 : s.size ≤ 11 := by omega
  have hal : a < s.size := by omega
  clear hs hA hB hne ha hsz hla hlb
  have HlL : Hid _ := hlL
  have HlR : Hid _ := hlR
  clear hlL hlR
  go_enter Tryd.func29, Tryd.ntmps29
  go_wp2
  go_loop [5, 6] (fun x y => ∃ k : Nat, ∃ d : Int, k ≤ s.size ∧ x = .int .i64 d ∧ y = .int .i64 (k : Int) ∧ Hid ((k ≤ a → d = -1) ∧ (a < k → d = (a : Int)))) (fun _ y => s.size - (intOf y).toNat)
  case atStart => exact ⟨0, -1, by omega, rfl, rfl, fun _ => rfl, fun hh => by omega⟩
  case round =>
    obtain ⟨k, d, hk, rfl, rfl, hd⟩ := hrel
    by_cases hlt : k < s.size
    · obtain ⟨c, hc⟩ : ∃ c, s[k] = c := ⟨_, rfl⟩
      by_cases hka : k = a
      · obtain rfl : d = -1 := hd.out.1 (by omega)
        have hdash : ((c.toNat : Int) == 45) = true := by
          have := HDa.out
          rw [← hka, byte_at s k hlt, hc] at this
          rw [this]; rfl
        have HK : Hid (k = a) := hka
        clear hka
        go_wp2
        go_round
        case rel => exact ⟨k + 1, (k : Int), by omega, rfl, by go_num, fun hh => by have := HK.out; omega, fun _ => by have := HK.out; omega⟩
        case measure => simp [intOf]; omega
      · have hnd := not_dash s k hlt (HAt.out k hlt hka) c hc
        have HK : Hid (k ≠ a) := hka
        clear hka
        go_wp2
        go_round
        case rel => exact ⟨k + 1, d, by omega, rfl, by go_num, fun hh => hd.out.1 (by omega), fun hh => hd.out.2 (by have := HK.out; omega)⟩
        case measure => simp [intOf]; omega
    · obtain rfl : d = (a : Int) := hd.out.2 (by omega)
      clear hd
      rcases HA.out with ⟨eA, eL⟩ | pA
      · rcases HB.out with ⟨eB, -⟩ | pB
        · rcases HNE.out with hx | hx
          · exact absurd eA hx
          · exact absurd eB hx
        · subst eL
          have f1 : (s.extract 0 a).toList.isEmpty = true := by rw [HlL.out, eA]; rfl
          have f2 : (s.extract (a + 1) s.size).toList.isEmpty = false := by
            rw [HlR.out]
            cases B with
            | nil => exact absurd pB.1 (by simp)
            | cons => rfl
          have PB : Hid (Num.Port (s.extract (a + 1) s.size).data.toList hi) := by rw [HR.out]; exact pB
          clear eA pB
          go_wp2_with fail
          refine (readPort_any _ hi _ PB).mono ?_
          rintro e w' ⟨rfl, rfl⟩
          go_wp2_with fail
          go_ret3
          exact ⟨rfl, rfl⟩
      · have f1 : (s.extract 0 a).toList.isEmpty = false := by
          rw [HlL.out]
          cases A with
          | nil => exact absurd pA.1 (by simp)
          | cons => rfl
        have PA : Hid (Num.Port (s.extract 0 a).data.toList lo) := by rw [HL.out]; exact pA
        clear pA
        rcases HB.out with ⟨eB, eH⟩ | pB
        · subst eH
          have f2 : (s.extract (a + 1) s.size).toList.isEmpty = true := by rw [HlR.out, eB]; rfl
          clear eB
          go_wp2_with fail
          refine (readPort_any _ lo _ PA).mono ?_
          rintro e w' ⟨rfl, rfl⟩
          go_wp2_with fail
          go_ret3
          exact ⟨rfl, rfl⟩
        · have f2 : (s.extract (a + 1) s.size).toList.isEmpty = false := by
            rw [HlR.out]
            cases B with
            | nil => exact absurd pB.1 (by simp)
            | cons => rfl
          have PB : Hid (Num.Port (s.extract (a + 1) s.size).data.toList hi) := by rw [HR.out]; exact pB
          clear pB
          go_wp2_with fail
          refine (readPort_any _ lo _ PA).mono ?_
          rintro e w' ⟨rfl, rfl⟩
          go_wp2_with fail
          refine (readPort_any _ hi _ PB).mono ?_
          rintro e w' ⟨rfl, rfl⟩
          go_wp2_with fail
          go_ret3
          exact ⟨rfl, rfl⟩
end Go.Proofs.Qxb6003389aDoor
