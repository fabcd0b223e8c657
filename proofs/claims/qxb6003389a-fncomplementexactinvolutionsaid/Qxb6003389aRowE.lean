import Derived.Test.Qxb6003389aRowD
namespace Go.Proofs.Qxb6003389a
open Go.RowKit

set_option maxHeartbeats 1000000 in
theorem equal32_any (a a' : Option Addr) (cap cap' n : Nat) (zs : List Int) (w : World) (hn : zs.length = n) (hm : n ≤ 65540) (hr : Row .i32 w a zs) (hr' : Row .i32 w a' zs) :
    Calls Try.prog 11 #[.slice a n cap, .slice a' n cap'] w fun e w' => ∃ m, e = .returned (.bool true) ∧ w' = w.drewN m := by
  have HN : Hid (zs.length = n) := hn
  have HR : Hid (Row .i32 w a zs) := hr
  have HR' : Hid (Row .i32 w a' zs) := hr'
  clear hn hr hr'
  go_enter Try.func11, Try.ntmps11
  go_wp2_with fail
  go_loopw [5] (fun y wr => ∃ k m : Nat, k ≤ n ∧ y = .int .i64 k ∧ wr = w.drewN m) (fun y _ => n - (intOf y).toNat)
  case atStart => exact ⟨0, 0, by omega, rfl, rfl⟩
  case round =>
    obtain ⟨k, m, hk, rfl, rfl⟩ := hrel
    by_cases hlt : k < n
    · rcases HR.out with hz | ⟨b, off, hx, hc⟩
      · have := HN.out; rw [hz] at this; simp at this; omega
      · rcases HR'.out with hz | ⟨b', off', hx', hc'⟩
        · have := HN.out; rw [hz] at this; simp at this; omega
        · subst hx hx'
          have h1 := hc k (by rw [HN.out]; exact hlt)
          have h2 := hc' k (by rw [HN.out]; exact hlt)
          obtain ⟨z, hz⟩ : ∃ z, z = zs[k]?.getD 0 := ⟨_, rfl⟩
          rw [← hz] at h1 h2
          clear hz hc hc'
          go_wp2_with fail
          go_quiet (fail)
          go_wp2
          go_roundw
          case rel => exact ⟨k + 1, _, by omega, by go_num, rfl⟩
          case measure => simp [intOf]; omega
    · go_wp2_with fail
      go_ret
      exact ⟨m, rfl, rfl⟩

set_option maxHeartbeats 400000 in
theorem compAt_any (a a' : Option Addr) (cap cap' n n' : Nat) (zs : List Int) (x : Int) (w : World) (hn : zs.length = n) (hn' : (Rset.comp zs).length = n') (hm : n ≤ 65536) (hm' : n' ≤ 65538) (hr : Row .i32 w a zs) (hr' : Row .i32 w a' (Rset.comp zs)) (hcan : Hid (Rset.canon zs = true)) :
    Calls Try.prog 10 #[.slice a n cap, .slice a' n' cap', .int .i32 x] w fun e w' => e = .returned (.bool true) ∧ w' = w := by
  have HN : Hid (zs.length = n) := hn
  have HN' : Hid ((Rset.comp zs).length = n') := hn'
  have HR : Hid (Row .i32 w a zs) := hr
  have HR' : Hid (Row .i32 w a' (Rset.comp zs)) := hr'
  clear hn hn' hr hr'
  by_cases h0 : x < 0
  · go_enter Try.func10, Try.ntmps10
    go_wp2_with fail
    go_ret
    exact ⟨rfl, rfl⟩
  · have d0 : decide (x < 0) = false := decide_eq_false h0
    by_cases h1 : 1114111 < x
    · go_enter Try.func10, Try.ntmps10
      go_wp2_with fail
      go_ret
      exact ⟨rfl, rfl⟩
    · have d1 : decide (1114111 < x) = false := decide_eq_false h1
      have HM : Hid (Rset.mem (Rset.comp zs) x = !Rset.mem zs x) := Rset.comp_mem zs x hcan.out (by omega) (by omega)
      go_enter Try.func10, Try.ntmps10
      go_wp2_with fail
      refine (inSet_any _ _ _ (Rset.comp zs) _ _ HN'.out hm' HR'.out (Rset.canon_comp zs hcan.out)).mono ?_
      rintro e w' ⟨rfl, rfl⟩
      go_wp2_with fail
      refine (inSet_any _ _ _ zs _ _ HN.out (by omega) HR.out hcan).mono ?_
      rintro e w' ⟨rfl, rfl⟩
      go_wp2_with fail
      go_ret
      refine ⟨ret_bool' ?_, rfl⟩
      rw [HM.out]
      cases Rset.mem zs x <;> rfl

set_option maxHeartbeats 400000 in
theorem zzcomp_any (a : Option Addr) (cap n : Nat) (zs : List Int) (w : World) (hn : zs.length = n) (hm : n ≤ 65538) (hr : Row .i32 w a zs) (hcan : Hid (Rset.canon zs = true)) :
    Calls Try.prog 9 #[.slice a n cap] w fun e w' => Gives .i32 (Rset.comp zs).length (Rset.comp zs) w e w' := by
  go_enter Try.func9, Try.ntmps9
  go_wp2_with fail
  refine (comp_any a cap n zs w hn hm hr hcan).mono ?_
  rintro e w' ⟨a', cap', rfl, g1, g2, g3⟩
  go_wp2_with fail
  go_ret
  exact ⟨a', cap', rfl, g1, g2, g3⟩

set_option maxHeartbeats 400000 in
theorem bytesC_yes (a : Option Addr) (n cap : Nat) (x : Int) (w : World) (h : n ≤ 1048576) :
    Calls Try.prog 6 #[.slice a n cap, .int .i32 x] w fun e w' => e = .returned (.bool true) ∧ w' = w := by
  go_enter Try.func6, Try.ntmps6
  go_wp2
  go_ret
  exact ⟨rfl, rfl⟩
set_option maxHeartbeats 400000 in
theorem bytesC_no (a : Option Addr) (n cap : Nat) (x : Int) (w : World) (h : ¬ n ≤ 1048576) (hm : n ≤ maxLen) :
    Calls Try.prog 6 #[.slice a n cap, .int .i32 x] w fun e w' => e = .returned (.bool false) ∧ w' = w := by
  unfold maxLen at hm
  go_enter Try.func6, Try.ntmps6
  go_wp2
  go_ret
  exact ⟨rfl, rfl⟩
end Go.Proofs.Qxb6003389a
