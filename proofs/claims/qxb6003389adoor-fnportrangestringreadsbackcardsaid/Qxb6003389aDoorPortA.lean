import Derived.Test.Qxb6003389aDoorRows
import Derived.Test.Qxb6003389aDoorNum
import Derived.WalkKit
import Derived.WalkSpells
import Derived.WalkLawsBesides
import Derived.Outline
import Derived.Deep.QuietTactic
import Derived.BigQuiet
namespace Go.Proofs.Qxb6003389aDoor
open Go.RowKit

theorem byte_at (s : ByteArray) (k : Nat) (h : k < s.size) : s.data.toList[k]?.getD 0 = s[k] := by
  rw [List.getElem?_eq_getElem (by simpa using h)]
  rfl
theorem size_list (s : ByteArray) : s.data.toList.length = s.size := by show s.data.toList.length = s.data.size; simp

theorem ret_ib {a : Int} {b : Int} {c d : Bool} (h : a = b) (h' : c = d) : Ending.returned (.tuple #[.int .i64 a, .bool c]) = .returned (.tuple #[.int .i64 b, .bool d]) := by rw [h, h']

set_option maxHeartbeats 1000000 in
theorem readPort_any (s : ByteArray) (n : Nat) (w : World) (h : Hid (Num.Port s.data.toList n)) :
    Calls Tryd.prog 36 #[.string s] w fun e w' => e = .returned (.tuple #[.int .i64 (n : Int), .bool true]) ∧ w' = w := by
  have h1 : 1 ≤ s.size := by rw [← size_list]; exact h.out.1
  have h5 : s.size ≤ 5 := by rw [← size_list]; exact h.out.2.1
  have e0 : ((s.size : Int) == 0) = false := beq_eq_false_iff_ne.2 (by omega)
  obtain ⟨c0, hc0⟩ : ∃ c, s[0] = c := ⟨_, rfl⟩
  have HZ : Hid (1 < s.size → ((c0.toNat : Int) == 48) = false) := by
    intro hh
    have := h.out.2.2.1 (by rw [size_list]; exact hh)
    rw [byte_at s 0 (by omega), hc0] at this
    simp only [beq_eq_false_iff_ne, ne_eq]
    intro e
    exact this (UInt8.toNat_inj.1 (by have : (48 : UInt8).toNat = 48 := rfl; omega))
  by_cases hs : 1 < s.size
  · have hz := HZ.out hs
    clear HZ
    go_enter Tryd.func36, Tryd.ntmps36
    go_wp2
    go_loop [4, 5] (fun x y => ∃ k v : Nat, k ≤ s.size ∧ v ≤ 99999 ∧ x = .int .i64 (v : Int) ∧ y = .int .i64 (k : Int) ∧ Hid (Num.val (s.data.toList.take k) = v)) (fun _ y => s.size - (intOf y).toNat)
    case atStart => exact ⟨0, 0, by omega, by omega, rfl, rfl, rfl⟩
    case round =>
      obtain ⟨k, v, hk, hv, rfl, rfl, hval⟩ := hrel
      by_cases hlt : k < s.size
      · obtain ⟨c, hc⟩ : ∃ c, s[k] = c := ⟨_, rfl⟩
        have hd := h.out.2.2.2.1 c (by rw [← hc, ← byte_at s k hlt, List.getElem?_eq_getElem (by rw [size_list]; exact hlt)]; exact List.getElem_mem _)
        have hd1 : 48 ≤ (c.toNat : Int) := by omega
        have hd2 : (c.toNat : Int) ≤ 57 := by omega
        have HV : Hid (Num.val (s.data.toList.take (k + 1)) = v * 10 + (c.toNat - 48)) := by
          rw [Num.val_take _ k (by rw [size_list]; exact hlt), hval.out, byte_at s k hlt, hc]; rfl
        have hb : v * 10 + (c.toNat - 48) ≤ 99999 := by rw [← HV.out]; exact Num.take_lt h.out.2.2.2.1 (k + 1) (by omega)
        have d1 : decide ((c.toNat : Int) < 48) = false := decide_eq_false (by omega)
        have d2 : decide ((57 : Int) < (c.toNat : Int)) = false := decide_eq_false (by omega)
        clear hd
        go_wp2
        go_round
        case rel => exact ⟨k + 1, v * 10 + (c.toNat - 48), by omega, hb, by go_num, by go_num, HV⟩
        case measure => simp [intOf]; omega
      · have hv2 : v = n := by
          rw [← hval.out, List.take_of_length_le (by rw [size_list]; omega)]; exact h.out.2.2.2.2.1
        have hn : n ≤ 65535 := h.out.2.2.2.2.2
        have hv3 : v ≤ 65535 := by omega
        have HV2 : Hid (v = n) := hv2
        clear hv2
        go_wp2
        go_ret2
        exact ⟨by rw [← HV2.out]; rfl, rfl⟩
  · have hz : decide ((1 : Int) < (s.size : Int)) = false := decide_eq_false (by omega)
    clear HZ hc0
    go_enter Tryd.func36, Tryd.ntmps36
    go_wp2
    go_loop [4, 5] (fun x y => ∃ k v : Nat, k ≤ s.size ∧ v ≤ 99999 ∧ x = .int .i64 (v : Int) ∧ y = .int .i64 (k : Int) ∧ Hid (Num.val (s.data.toList.take k) = v)) (fun _ y => s.size - (intOf y).toNat)
    case atStart => exact ⟨0, 0, by omega, by omega, rfl, rfl, rfl⟩
    case round =>
      obtain ⟨k, v, hk, hv, rfl, rfl, hval⟩ := hrel
      by_cases hlt : k < s.size
      · obtain ⟨c, hc⟩ : ∃ c, s[k] = c := ⟨_, rfl⟩
        have hd := h.out.2.2.2.1 c (by rw [← hc, ← byte_at s k hlt, List.getElem?_eq_getElem (by rw [size_list]; exact hlt)]; exact List.getElem_mem _)
        have hd1 : 48 ≤ (c.toNat : Int) := by omega
        have hd2 : (c.toNat : Int) ≤ 57 := by omega
        have HV : Hid (Num.val (s.data.toList.take (k + 1)) = v * 10 + (c.toNat - 48)) := by
          rw [Num.val_take _ k (by rw [size_list]; exact hlt), hval.out, byte_at s k hlt, hc]; rfl
        have hb : v * 10 + (c.toNat - 48) ≤ 99999 := by rw [← HV.out]; exact Num.take_lt h.out.2.2.2.1 (k + 1) (by omega)
        have d1 : decide ((c.toNat : Int) < 48) = false := decide_eq_false (by omega)
        have d2 : decide ((57 : Int) < (c.toNat : Int)) = false := decide_eq_false (by omega)
        clear hd
        go_wp2
        go_round
        case rel => exact ⟨k + 1, v * 10 + (c.toNat - 48), by omega, hb, by go_num, by go_num, HV⟩
        case measure => simp [intOf]; omega
      · have hv2 : v = n := by
          rw [← hval.out, List.take_of_length_le (by rw [size_list]; omega)]; exact h.out.2.2.2.2.1
        have hn : n ≤ 65535 := h.out.2.2.2.2.2
        have hv3 : v ≤ 65535 := by omega
        have HV2 : Hid (v = n) := hv2
        clear hv2
        go_wp2
        go_ret2
        exact ⟨by rw [← HV2.out]; rfl, rfl⟩
end Go.Proofs.Qxb6003389aDoor
