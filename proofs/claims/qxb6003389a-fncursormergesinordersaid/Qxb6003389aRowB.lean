import Derived.Test.Qxb6003389aRowA
namespace Go.Proofs.Qxb6003389a
open Go.RowKit

theorem dec_and {p q : Prop} [Decidable p] [Decidable q] (h : p) : decide q = decide (p ∧ q) := by simp [h]
theorem dec_not {p q : Prop} [Decidable p] [Decidable q] (h : ¬ p) : false = decide (p ∧ q) := by simp [h]

set_option maxHeartbeats 1000000 in
theorem inSet_any (a : Option Addr) (cap n : Nat) (zs : List Int) (c : Int) (w : World) (hn : zs.length = n) (hm : n ≤ 65538) (hr : Row .i32 w a zs) (hcan : Hid (Rset.canon zs = true)) :
    Calls Try.prog 23 #[.slice a n cap, .int .i32 c] w fun e w' => e = .returned (.bool (Rset.mem zs c)) ∧ w' = w := by
  have HN : Hid (zs.length = n) := hn
  have HE : Hid (n % 2 = 0) := by rw [← hn]; exact Rset.canonF_even zs _ hcan.out
  clear hn
  rcases hr with rfl | ⟨b, off, rfl, hc⟩
  · obtain rfl : n = 0 := by have := HN.out; simp at this; omega
    go_enter Try.func23, Try.ntmps23
    go_wp2
    refine wp_loop_rounds 1 ?_
    rw [rounds_succ]
    go_wp2
    go_ret
    exact ⟨rfl, rfl⟩
  · go_enter Try.func23, Try.ntmps23
    go_wp2
    go_loop [6, 7] (fun x y => ∃ l r : Nat, l ≤ r ∧ 2 * r ≤ n ∧ x = .int .i64 l ∧ y = .int .i64 r ∧ Hid (∀ i, i < l → zs[2 * i + 1]?.getD 0 < c) ∧ Hid (2 * r < n → c ≤ zs[2 * r + 1]?.getD 0)) (fun x y => (intOf y).toNat - (intOf x).toNat)
    case atStart => exact ⟨0, n / 2, by omega, by omega, rfl, by go_num, fun i hi => by omega, fun hh => by have := HE.out; omega⟩
    case round =>
      obtain ⟨l, r, hlr, hrn, rfl, rfl, h1, h2⟩ := hrel
      by_cases hlt : l < r
      · obtain ⟨m, hme⟩ : ∃ m : Nat, (l : Int) + ((r : Int) - (l : Int)) / 2 = (m : Int) := ⟨l + (r - l) / 2, by omega⟩
        have hm1 : l ≤ m := by omega
        have hm2 : m < r := by omega
        have hc1 := hc (2 * m + 1) (by rw [HN.out]; omega)
        obtain ⟨x, hx⟩ : ∃ x, x = zs[2 * m + 1]?.getD 0 := ⟨_, rfl⟩
        rw [← hx] at hc1
        have HX : Hid (x = zs[2 * m + 1]?.getD 0) := hx
        clear hx hc
        by_cases hxc : x < c
        · go_wp2
          go_round
          case rel =>
            refine ⟨m + 1, r, by omega, hrn, by go_num, rfl, fun i hi => ?_, h2⟩
            have := Rset.ends_rise zs hcan.out i m (by omega) (by rw [HN.out]; omega)
            rw [← HX.out] at this
            omega
          case measure => simp [intOf]; omega
        · go_wp2
          go_round
          case rel => exact ⟨l, m, hm1, by omega, rfl, rfl, h1, fun _ => by rw [← HX.out]; omega⟩
          case measure => simp [intOf]; omega
      · obtain rfl : l = r := by omega
        have hres := Rset.found zs c l hcan.out (by rw [HN.out]; exact hrn) h1.out (by rw [HN.out]; exact h2.out)
        rw [HN.out] at hres
        by_cases hl : 2 * l < n
        · have hc0 := hc (2 * l) (by rw [HN.out]; exact hl)
          obtain ⟨x, hx⟩ : ∃ x, x = zs[2 * l]?.getD 0 := ⟨_, rfl⟩
          rw [← hx] at hc0 hres
          clear hx hc
          have HR : Hid (decide (x ≤ c) = Rset.mem zs c) := (dec_and hl).trans hres
          clear hres
          have hl2 : (l : Int) < (n : Int) / 2 := by have := HE.out; omega
          go_wp2
          go_ret
          exact ⟨ret_bool' HR.out, rfl⟩
        · have HR : Hid (false = Rset.mem zs c) := (dec_not hl).trans hres
          clear hres hc
          have hl2 : decide ((l : Int) < (n : Int) / 2) = false := decide_eq_false (by omega)
          go_wp2
          go_ret
          exact ⟨ret_bool' HR.out, rfl⟩
end Go.Proofs.Qxb6003389a
