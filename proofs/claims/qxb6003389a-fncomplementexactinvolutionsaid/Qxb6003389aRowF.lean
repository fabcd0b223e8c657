import Derived.Test.Qxb6003389aRowE
namespace Go.Proofs.Qxb6003389a
open Go.RowKit

theorem canon_fit (zs : List Int) (h : Rset.canon zs = true) : Fit zs := by
  intro i
  have ev := Rset.canonF_even zs _ h
  by_cases hi : i < zs.length
  · have := Rset.canonF_at zs _ h (i / 2) (by omega)
    rcases (show i = 2 * (i / 2) ∨ i = 2 * (i / 2) + 1 from by omega) with e | e
    · rw [← e] at this; omega
    · rw [← e] at this; omega
  · rw [List.getElem?_eq_none (by omega)]
    simp

set_option maxRecDepth 6000 in
set_option maxHeartbeats 2000000 in
theorem lawC_main (a : Option Addr) (cap n : Nat) (zs : List Int) (x : Int) (w : World) (hn : zs.length = n) (hm : n ≤ 65536) (hr : Row .i32 w a zs) (hnil : a = none → n = 0) (hf : Hid (Fit zs)) (hcan : Rset.canon zs = true) :
    Calls Try.prog 3 #[.slice a n cap, .int .i32 x] w fun e w' => e = .returned (.bool true) ∧ Below w.heap.size w w' := by
  have HN : Hid (zs.length = n) := hn
  have HN' : Hid ((Rset.comp zs).length ≤ n + 2) := by rw [← hn]; exact Rset.comp_length zs
  have HC : Hid (Rset.canon zs = true) := hcan
  have HR : Hid (Row .i32 w a zs) := hr
  have HL : Hid (a = none → n = 0) := hnil
  clear hn hr hcan hnil
  go_enter Try.func3, Try.ntmps3
  go_wp2_with fail
  refine (bytesC_yes _ _ _ _ _ (by omega)).mono ?_
  rintro e w' ⟨rfl, rfl⟩
  go_wp2_with fail
  refine (canon_any _ _ _ zs _ HN.out (by omega) HR.out hf).mono ?_
  rintro e w' ⟨rfl, rfl⟩
  rw [HC.out]
  go_wp2_with fail
  refine (clone32_any _ _ _ zs _ HN.out (by omega) HR.out HL.out).mono ?_
  rintro e w1 ⟨a1, cap1, rfl, r1, -, hb1⟩
  clear HL HR
  have HR1 : Hid (Row .i32 w1 a1 zs) := r1
  have HB1 : Hid (Below w'.heap.size w' w1) := hb1
  clear r1 hb1
  go_wp2_with fail
  refine (zzcomp_any _ _ _ zs _ HN.out (by omega) HR1.out HC).mono ?_
  rintro e w2 ⟨a2, cap2, rfl, r2, -, hb2⟩
  have HR2 : Hid (Row .i32 w2 a2 (Rset.comp zs)) := r2
  have HR3 : Hid (Row .i32 w2 a1 zs) := HR1.out.below hb2
  have HB2 : Hid (Below w'.heap.size w' w2) := HB1.out.trans (hb2.mono HB1.out.size)
  clear r2 hb2 HR1 HB1
  obtain ⟨n', hn'⟩ : ∃ n', n' = (Rset.comp zs).length := ⟨_, rfl⟩
  rw [← hn']
  have HM : Hid ((Rset.comp zs).length = n') := hn'.symm
  have hn2 : n' ≤ n + 2 := by rw [hn']; exact HN'.out
  clear hn' HN'
  have HF : Hid (Fit (Rset.comp zs)) := canon_fit _ (Rset.canon_comp zs HC.out)
  go_wp2_with fail
  refine (canon_any _ _ _ (Rset.comp zs) _ HM.out (by omega) HR2.out HF).mono ?_
  rintro e w3 ⟨rfl, rfl⟩
  rw [Rset.canon_comp zs HC.out]
  go_wp2_with fail
  refine (compAt_any _ _ _ _ _ _ zs _ _ HN.out HM.out hm (by omega) HR3.out HR2.out HC).mono ?_
  rintro e w3 ⟨rfl, rfl⟩
  go_wp2_with fail
  go_loop [6] (fun y => ∃ k : Nat, 2 * k ≤ n ∧ y = .int .i64 ((2 * k : Nat) : Int)) (fun y => n - (intOf y).toNat)
  case atStart => exact ⟨0, by omega, rfl⟩
  case round =>
    obtain ⟨k, hk, rfl⟩ := hrel
    by_cases hlt : 2 * k + 1 < n
    · rcases HR3.out with hz | ⟨b, off, hx, hc⟩
      · have := HN.out; rw [hz] at this; simp at this; omega
      · subst hx
        have hc0 := hc (2 * k) (by rw [HN.out]; omega)
        have hc1 := hc (2 * k + 1) (by rw [HN.out]; omega)
        obtain ⟨lo, hlo⟩ : ∃ lo, lo = zs[2 * k]?.getD 0 := ⟨_, rfl⟩
        obtain ⟨hh, hhi⟩ : ∃ hh, hh = zs[2 * k + 1]?.getD 0 := ⟨_, rfl⟩
        rw [← hlo] at hc0
        rw [← hhi] at hc1
        clear hlo hhi hc
        go_wp2_with (go_at_call 10; refine (compAt_any _ _ _ _ _ _ zs _ _ HN.out HM.out hm (by omega) HR3.out HR2.out HC).mono ?_; rintro e w4 ⟨rfl, rfl⟩)
        go_round
        case rel => exact ⟨k + 1, by have : zs.length % 2 = 0 := Rset.canonF_even zs _ HC.out; have := HN.out; omega, by go_num⟩
        case measure => simp [intOf]; omega
    · go_wp2_with fail
      go_loop [7] (fun y => ∃ k : Nat, 2 * k ≤ n' ∧ y = .int .i64 ((2 * k : Nat) : Int)) (fun y => n' - (intOf y).toNat)
      case atStart => exact ⟨0, by omega, rfl⟩
      case round =>
        obtain ⟨k', hk', rfl⟩ := hrel
        by_cases hlt' : 2 * k' + 1 < n'
        · rcases HR2.out with hz | ⟨b, off, hx, hc⟩
          · have := HM.out; rw [hz] at this; simp at this; omega
          · subst hx
            have hc0 := hc (2 * k') (by rw [HM.out]; omega)
            have hc1 := hc (2 * k' + 1) (by rw [HM.out]; omega)
            obtain ⟨lo, hlo⟩ : ∃ lo, lo = (Rset.comp zs)[2 * k']?.getD 0 := ⟨_, rfl⟩
            obtain ⟨hh, hhi⟩ : ∃ hh, hh = (Rset.comp zs)[2 * k' + 1]?.getD 0 := ⟨_, rfl⟩
            rw [← hlo] at hc0
            rw [← hhi] at hc1
            clear hlo hhi hc
            go_wp2_with (go_at_call 10; refine (compAt_any _ _ _ _ _ _ zs _ _ HN.out HM.out hm (by omega) HR3.out HR2.out HC).mono ?_; rintro e w4 ⟨rfl, rfl⟩)
            go_round
            case rel => exact ⟨k' + 1, by have : (Rset.comp zs).length % 2 = 0 := Rset.canonF_even _ _ (Rset.canon_comp zs HC.out); have := HM.out; omega, by go_num⟩
            case measure => simp [intOf]; omega
        · go_wp2_with fail
          refine (zzcomp_any _ _ _ (Rset.comp zs) _ HM.out (by omega) HR2.out (Rset.canon_comp zs HC.out)).mono ?_
          rw [Rset.comp_comp zs HC.out]
          rintro e w5 ⟨a5, cap5, rfl, r5, -, hb5⟩
          have HR5 : Hid (Row .i32 w5 a5 zs) := r5
          have HR6 : Hid (Row .i32 w5 a1 zs) := HR3.out.below hb5
          have HB5 : Hid (Below w'.heap.size w' w5) := HB2.out.trans (hb5.mono HB2.out.size)
          clear r5 hb5
          rw [HN.out]
          go_wp2_with fail
          refine (equal32_any _ _ _ _ _ zs _ HN.out (by omega) HR5.out HR6.out).mono ?_
          rintro e w6 ⟨m, rfl, rfl⟩
          go_wp2_with fail
          go_ret
          exact ⟨rfl, below_drewN HB5.out m⟩

set_option maxHeartbeats 400000 in
theorem lawC_not (a : Option Addr) (cap n : Nat) (zs : List Int) (x : Int) (w : World) (hn : zs.length = n) (hm : n ≤ 65536) (hr : Row .i32 w a zs) (hf : Hid (Fit zs)) (hcan : Rset.canon zs = false) :
    Calls Try.prog 3 #[.slice a n cap, .int .i32 x] w fun e w' => e = .returned (.bool true) ∧ Below w.heap.size w w' := by
  have HN : Hid (zs.length = n) := hn
  have HR : Hid (Row .i32 w a zs) := hr
  have HC : Hid (Rset.canon zs = false) := hcan
  clear hn hr hcan
  go_enter Try.func3, Try.ntmps3
  go_wp2_with fail
  refine (bytesC_yes _ _ _ _ _ (by omega)).mono ?_
  rintro e w' ⟨rfl, rfl⟩
  go_wp2_with fail
  refine (canon_any _ _ _ zs _ HN.out (by omega) HR.out hf).mono ?_
  rintro e w' ⟨rfl, rfl⟩
  rw [HC.out]
  go_wp2_with fail
  go_ret
  exact ⟨rfl, Below.refl _ _⟩
set_option maxHeartbeats 400000 in
theorem lawC_long (a : Option Addr) (cap n : Nat) (x : Int) (w : World) (hm : ¬ n ≤ 65536) (hm2 : n ≤ 1048576) :
    Calls Try.prog 3 #[.slice a n cap, .int .i32 x] w fun e w' => e = .returned (.bool true) ∧ Below w.heap.size w w' := by
  go_enter Try.func3, Try.ntmps3
  go_wp2_with fail
  refine (bytesC_yes _ _ _ _ _ hm2).mono ?_
  rintro e w' ⟨rfl, rfl⟩
  go_wp2_with fail
  go_ret
  exact ⟨rfl, Below.refl _ _⟩
set_option maxHeartbeats 400000 in
theorem lawC_huge (a : Option Addr) (cap n : Nat) (x : Int) (w : World) (hm : ¬ n ≤ 1048576) (hm2 : n ≤ maxLen) :
    Calls Try.prog 3 #[.slice a n cap, .int .i32 x] w fun e w' => e = .returned (.bool true) ∧ Below w.heap.size w w' := by
  go_enter Try.func3, Try.ntmps3
  go_wp2_with fail
  refine (bytesC_no _ _ _ _ _ hm hm2).mono ?_
  rintro e w' ⟨rfl, rfl⟩
  go_wp2_with fail
  go_ret
  exact ⟨rfl, Below.refl _ _⟩
end Go.Proofs.Qxb6003389a
