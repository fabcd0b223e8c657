import Derived.Test.Qxb6003389aDoorApA
namespace Go.Proofs.Qxb6003389aDoor
open Go.RowKit

/-- What zzPairsInRange has seen where it answers true. -/
def Pr (zs : List Int) (k : Nat) : Prop := ∀ i, i < k → 0 ≤ zs[2 * i]?.getD 0 ∧ zs[2 * i + 1]?.getD 0 ≤ 1114111 ∧ zs[2 * i]?.getD 0 ≤ zs[2 * i + 1]?.getD 0
def PrAns (zs : List Int) (n : Nat) (w : World) (e : Ending) (w' : World) : Prop := ∃ b m, e = .returned (.bool b) ∧ w' = w.drewN m ∧ (b = true → n % 2 = 0 ∧ Pr zs (n / 2))

set_option maxHeartbeats 2000000 in
theorem pairs_any (a : Option Addr) (cap n : Nat) (zs : List Int) (w : World) (hn : zs.length = n) (hm : n ≤ 65536) (hr : Hid (Row .i32 w a zs)) :
    Calls Tryd.prog 9 #[.slice a n cap] w fun e w' => PrAns zs n w e w' := by
  have HN : Hid (zs.length = n) := hn
  clear hn
  by_cases hev : n % 2 = 0
  · have hev1 : ((n : Int) % 2 != 0) = false := by simp; omega
    go_enter Tryd.func9, Tryd.ntmps9
    go_wp2_with fail
    go_loopw [3] (fun y wr => ∃ k m : Nat, 2 * k ≤ n ∧ y = .int .i64 ((2 * k : Nat) : Int) ∧ wr = w.drewN m ∧ Hid (Pr zs k)) (fun y _ => n + 1 - (intOf y).toNat)
    case atStart => exact ⟨0, 0, by omega, rfl, rfl, fun i hi => by omega⟩
    case round =>
      obtain ⟨k, m, hk, rfl, rfl, hp⟩ := hrel
      by_cases hlt : 2 * k + 1 < n
      · rcases hr.out with hz | ⟨b, off, hx, hc⟩
        · have := HN.out; rw [hz] at this; simp at this; omega
        subst hx
        have h1 := hc (2 * k) (by rw [HN.out]; omega)
        have h2 := hc (2 * k + 1) (by rw [HN.out]; omega)
        have HP : Hid ((0 ≤ zs[2 * k]?.getD 0 ∧ zs[2 * k + 1]?.getD 0 ≤ 1114111 ∧ zs[2 * k]?.getD 0 ≤ zs[2 * k + 1]?.getD 0) → Pr zs (k + 1)) := by
          intro h i hi
          by_cases he : i = k
          · subst he; exact h
          · exact hp.out i (by omega)
        generalize zs[2 * k]?.getD 0 = x at h1 HP
        generalize zs[2 * k + 1]?.getD 0 = y at h2 HP
        clear hc
        have hI1 : IntKind.i64.wrap (2 * (k : Int) + 1) = 2 * (k : Int) + 1 := by rw [IntKind.wrap_i64]; omega
        have hI2 : 0 ≤ 2 * (k : Int) + 1 := by omega
        have hI3 : 2 * (k : Int) + 1 < (n : Int) := by omega
        have hI4 : (2 * (k : Int) + 1).toNat = 2 * k + 1 := by omega
        have hI5 : 2 * (k : Int) < (n : Int) := by omega
        by_cases hx0 : x < 0
        · go_wp2_with fail
          go_quiet (fail)
          go_wp2
          go_ret
          exact ⟨false, _, rfl, World.drewN_drewN _ _ _, by simp⟩
        · have d1 : decide (x < 0) = false := decide_eq_false hx0
          by_cases hy0 : 1114111 < y
          · have d2 : decide (1114111 < y) = true := decide_eq_true hy0
            go_wp2_with fail
            go_quiet (fail)
            go_wp2
            go_ret
            exact ⟨false, _, rfl, World.drewN_drewN _ _ _, by simp⟩
          · have d2 : decide (1114111 < y) = false := decide_eq_false hy0
            by_cases hxy : y < x
            · have d3 : decide (y < x) = true := decide_eq_true hxy
              go_wp2_with fail
              go_quiet (fail)
              go_wp2
              go_ret
              exact ⟨false, _, rfl, World.drewN_drewN _ _ _, by simp⟩
            · have d3 : decide (y < x) = false := decide_eq_false hxy
              have HP' : Hid (Pr zs (k + 1)) := HP.out ⟨by omega, by omega, by omega⟩
              go_wp2_with fail
              go_quiet (fail)
              go_wp2
              go_roundw
              case rel => exact ⟨k + 1, _, by omega, by go_num, rfl, HP'⟩
              case measure => simp [intOf]; omega
      · go_wp2_with fail
        go_ret
        refine ⟨true, m, rfl, rfl, fun _ => ⟨hev, ?_⟩⟩
        have : n / 2 = k := by omega
        rw [this]; exact hp.out
  · have hev1 : ((n : Int) % 2 != 0) = true := by simp; omega
    go_enter Tryd.func9, Tryd.ntmps9
    go_wp2_with fail
    go_ret
    exact ⟨false, 0, rfl, rfl, by simp⟩

/-- Two rows are the same: what zzEqualInt32 answers. -/
def EqAns (w : World) (e : Ending) (w' : World) : Prop := ∃ m, e = .returned (.bool true) ∧ w' = w.drewN m

set_option maxHeartbeats 2000000 in
theorem equal_any (a a' : Option Addr) (cap cap' n : Nat) (zs : List Int) (w : World) (hn : zs.length = n) (hm : n ≤ 65536) (hr : Hid (Row .i32 w a zs)) (hr' : Hid (Row .i32 w a' zs)) :
    Calls Tryd.prog 14 #[.slice a n cap, .slice a' n cap'] w fun e w' => EqAns w e w' := by
  have HN : Hid (zs.length = n) := hn
  clear hn
  go_enter Tryd.func14, Tryd.ntmps14
  go_wp2_with fail
  go_loopw [5] (fun y wr => ∃ k m : Nat, k ≤ n ∧ y = .int .i64 (k : Int) ∧ wr = w.drewN m) (fun y _ => n + 1 - (intOf y).toNat)
  case atStart => exact ⟨0, 0, by omega, rfl, rfl⟩
  case round =>
    obtain ⟨k, m, hk, rfl, rfl⟩ := hrel
    by_cases hlt : k < n
    · rcases hr.out with hz | ⟨b, off, hx, hc⟩
      · have := HN.out; rw [hz] at this; simp at this; omega
      rcases hr'.out with hz | ⟨b', off', hx', hc'⟩
      · have := HN.out; rw [hz] at this; simp at this; omega
      subst hx hx'
      have h1 := hc k (by rw [HN.out]; omega)
      have h2 := hc' k (by rw [HN.out]; omega)
      generalize zs[k]?.getD 0 = x at h1 h2
      clear hc hc'
      go_wp2_with fail
      go_quiet (fail)
      go_wp2
      go_roundw
      case rel => exact ⟨k + 1, _, by omega, by go_num, rfl⟩
      case measure => simp [intOf]; omega
    · go_wp2_with fail
      go_ret
      exact ⟨m, rfl, rfl⟩
end Go.Proofs.Qxb6003389aDoor
