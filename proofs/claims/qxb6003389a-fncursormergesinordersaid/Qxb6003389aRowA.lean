import Derived.Test.Qxb6003389aRows
import Derived.Test.Qxb6003389aRset
import Derived.WalkKit
import Derived.WalkSpells
import Derived.WalkLawsBesides
import Derived.Outline
import Derived.Deep.QuietTactic
import Derived.BigQuiet
namespace Go.Proofs.Qxb6003389a
open Go.RowKit

/-- A slice value of 'zs.length' elements that reads as the numbers 'zs' in the world 'w': of one without elements nothing is known of its address. -/
def Row (k : IntKind) (w : World) (a : Option Addr) (zs : List Int) : Prop :=
  zs = [] ∨ ∃ b off, a = some ⟨b, off, none⟩ ∧ ∀ i, i < zs.length → w.cell? ⟨b, off + i, none⟩ = some (.int k (zs[i]?.getD 0))

theorem Row.drewN {k : IntKind} {w : World} {a : Option Addr} {zs : List Int} (h : Row k w a zs) (n : Nat) : Row k (w.drewN n) a zs := h

/-- Every number fits int32. -/
def Fit (zs : List Int) : Prop := ∀ i : Nat, -2147483648 ≤ zs[i]?.getD 0 ∧ zs[i]?.getD 0 ≤ 2147483647

theorem drop_two (zs : List Int) (k : Nat) (h : k + 1 < zs.length) : zs.drop k = zs[k]?.getD 0 :: zs[k + 1]?.getD 0 :: zs.drop (k + 2) := by
  rw [List.drop_eq_getElem_cons (by omega), List.drop_eq_getElem_cons h]
  simp [h, (by omega : k < zs.length)]

theorem canon_odd (zs : List Int) (h : zs.length % 2 ≠ 0) : Rset.canon zs = false := by
  by_cases hc : Rset.canon zs = true
  · exact absurd (Rset.canonF_even zs _ hc) h
  · simpa using hc

theorem canon_step {p lo hi : Int} {r : List Int} (h1 : 0 ≤ lo) (h2 : hi ≤ 1114111) (h3 : lo ≤ hi) (h4 : p + 1 < lo) : Rset.canonF p (lo :: hi :: r) = Rset.canonF hi r := by
  simp only [Rset.canonF]
  rw [decide_eq_true ⟨h1, h2, h3, h4⟩, Bool.true_and]
theorem canon_stop {p lo hi : Int} {r : List Int} (h : ¬ (0 ≤ lo ∧ hi ≤ 1114111 ∧ lo ≤ hi ∧ p + 1 < lo)) : Rset.canonF p (lo :: hi :: r) = false := by
  simp only [Rset.canonF]
  rw [decide_eq_false h, Bool.false_and]

theorem ret_bool' {a b : Bool} (h : a = b) : Ending.returned (.bool a) = .returned (.bool b) := by rw [h]

set_option maxHeartbeats 1000000 in
theorem canon_any (a : Option Addr) (cap n : Nat) (zs : List Int) (w : World) (hn : zs.length = n) (hm : n ≤ 65538) (hr : Row .i32 w a zs) (hf : Hid (Fit zs)) :
    Calls Try.prog 7 #[.slice a n cap] w fun e w' => e = .returned (.bool (Rset.canon zs)) ∧ w' = w := by
  have HN : Hid (zs.length = n) := hn
  clear hn
  by_cases he : n % 2 = 0
  · have he' : ((n : Int) % 2 != 0) = false := by simp; omega
    have HE : Hid (n % 2 = 0) := he
    clear he
    rcases hr with rfl | ⟨b, off, rfl, hc⟩
    · obtain rfl : n = 0 := by have := HN.out; simp at this; omega
      clear he'
      go_enter Try.func7, Try.ntmps7
      go_wp2
      refine wp_loop_rounds 1 ?_
      rw [rounds_succ]
      go_wp2
      go_ret
      exact ⟨rfl, rfl⟩
    · go_enter Try.func7, Try.ntmps7
      go_wp2
      go_loop [3, 4] (fun x y => ∃ k : Nat, ∃ p : Int, 2 * k ≤ n ∧ -2 ≤ p ∧ p ≤ 1114111 ∧ x = .int .i64 p ∧ y = .int .i64 ((2 * k : Nat) : Int) ∧ Hid (Rset.canonF p (zs.drop (2 * k)) = Rset.canon zs)) (fun _ y => n - (intOf y).toNat)
      case atStart => exact ⟨0, -2, by omega, by omega, by omega, rfl, rfl, rfl⟩
      case round =>
        obtain ⟨k, p, hk, hp1, hp2, rfl, rfl, hv⟩ := hrel
        by_cases hlt : 2 * k + 1 < n
        · have hc0 := hc (2 * k) (by rw [HN.out]; omega)
          have hc1 := hc (2 * k + 1) (by rw [HN.out]; omega)
          have f0 := hf.out (2 * k)
          have f1 := hf.out (2 * k + 1)
          have HD : Hid (zs.drop (2 * k) = zs[2 * k]?.getD 0 :: zs[2 * k + 1]?.getD 0 :: zs.drop (2 * k + 2)) := drop_two zs (2 * k) (by rw [HN.out]; omega)
          obtain ⟨lo, hlo⟩ : ∃ lo, lo = zs[2 * k]?.getD 0 := ⟨_, rfl⟩
          obtain ⟨hi, hhi⟩ : ∃ hi, hi = zs[2 * k + 1]?.getD 0 := ⟨_, rfl⟩
          rw [← hlo] at hc0 f0 HD
          rw [← hhi] at hc1 f1 HD
          clear hlo hhi hc
          by_cases ok : 0 ≤ lo ∧ hi ≤ 1114111 ∧ lo ≤ hi ∧ p + 1 < lo
          · obtain ⟨o1, o2, o3, o4⟩ := ok
            have HV : Hid (Rset.canonF hi (zs.drop (2 * k + 2)) = Rset.canon zs) := by rw [← hv.out, HD.out, canon_step o1 o2 o3 o4]; rfl
            have d1 : decide (lo < 0) = false := decide_eq_false (by omega)
            have d2 : decide (1114111 < hi) = false := decide_eq_false (by omega)
            go_wp2
            go_round
            case rel => exact ⟨k + 1, hi, by omega, by omega, o2, rfl, by go_num, HV⟩
            case measure => simp [intOf]; omega
          · have HV : Hid (Rset.canon zs = false) := by rw [← hv.out, HD.out, canon_stop ok]; rfl
            go_wp2
            all_goals first
              | (go_ret; exact ⟨ret_bool' HV.out.symm, rfl⟩)
              | (exfalso; omega)
        · go_wp2
          go_ret
          exact ⟨ret_bool' (by rw [← hv.out, List.drop_eq_nil_of_le (by rw [HN.out]; have := HE.out; omega)]; rfl), rfl⟩
  · have he' : ((n : Int) % 2 != 0) = true := by simp; omega
    have HC : Hid (Rset.canon zs = false) := canon_odd zs (by rw [HN.out]; exact he)
    clear he
    go_enter Try.func7, Try.ntmps7
    go_wp2
    go_ret
    exact ⟨ret_bool' HC.out.symm, rfl⟩
end Go.Proofs.Qxb6003389a
