import Derived.Test.Qxb6003389aCurA
namespace Go.Proofs.Qxb6003389a
open Go.RowKit

set_option maxHeartbeats 1000000 in
theorem next_none (p : Nat) (a a' : Option Addr) (cap cap' : Nat) (w : World) (h0 : w.cell? ⟨p, 0, none⟩ = some (.slice a 0 cap)) (h1 : w.cell? ⟨p, 1, none⟩ = some (.slice a' 0 cap')) :
    Calls Try.prog 26 #[.pointer (some ⟨p, 0, none⟩)] w fun e w' => e = .returned (.tuple #[.int .i64 0, .bool false]) ∧ ∃ m, w' = w.drewN m := by
  have d0 : decide ((0 : Int) < 0) = false := by decide
  go_enter Try.func26, Try.ntmps26
  go_wp2_with fail
  go_quiet (fail)
  go_wp2
  go_ret2
  exact ⟨rfl, _, rfl⟩

/-- The slice at 'p', place 'j', has lost its first element. -/
def Pop (p j b off n : Nat) (w w' : World) : Prop := ∃ m off' cap', w' = (w.setCell ⟨p, j, none⟩ (.slice (some ⟨b, off', none⟩) n cap')).drewN m ∧ n ≤ cap' ∧ (n = 0 ∨ off' = off + 1)

set_option maxHeartbeats 1000000 in
theorem next_some1 (p b off n cap : Nat) (a' : Option Addr) (cap' : Nat) (x : Int) (w : World) (hn : n ≤ 2048) (h0 : w.cell? ⟨p, 0, none⟩ = some (.slice (some ⟨b, off, none⟩) (n + 1) cap)) (hx : w.cell? ⟨b, off, none⟩ = some (.int .i64 x)) (hcap : n + 1 ≤ cap) (h1 : w.cell? ⟨p, 1, none⟩ = some (.slice a' 0 cap')) (hf : w.frozen? ⟨p, 0, none⟩ = false) :
    Calls Try.prog 26 #[.pointer (some ⟨p, 0, none⟩)] w fun e w' => e = .returned (.tuple #[.int .i64 x, .bool true]) ∧ Pop p 0 b off n w w' := by
  have d0 : decide ((0 : Int) < (n : Int) + 1) = true := decide_eq_true (by omega)
  by_cases hc1 : cap = 1
  · subst hc1
    obtain rfl : n = 0 := by omega
    go_enter Try.func26, Try.ntmps26
    go_wp2_with fail
    go_quiet (fail)
    go_wp2
    go_region
    go_wp2
    go_ret2
    exact ⟨rfl, _, off, 0, rfl, Nat.le_refl _, .inl rfl⟩
  · go_enter Try.func26, Try.ntmps26
    go_wp2_with fail
    go_quiet (fail)
    go_wp2
    go_region
    go_wp2
    go_ret2
    exact ⟨rfl, _, off + 1, cap - 1, rfl, by omega, .inr rfl⟩

set_option maxHeartbeats 1000000 in
theorem next_some2 (p b off n cap b' off' n' cap' : Nat) (x y : Int) (w : World) (hn : n ≤ 2048) (hn' : n' ≤ 2048) (h0 : w.cell? ⟨p, 0, none⟩ = some (.slice (some ⟨b, off, none⟩) (n + 1) cap)) (hx : w.cell? ⟨b, off, none⟩ = some (.int .i64 x)) (hcap : n + 1 ≤ cap) (h1 : w.cell? ⟨p, 1, none⟩ = some (.slice (some ⟨b', off', none⟩) (n' + 1) cap')) (hy : w.cell? ⟨b', off', none⟩ = some (.int .i64 y)) (_hcap' : n' + 1 ≤ cap') (hf : w.frozen? ⟨p, 0, none⟩ = false) (hxy : x < y) :
    Calls Try.prog 26 #[.pointer (some ⟨p, 0, none⟩)] w fun e w' => e = .returned (.tuple #[.int .i64 x, .bool true]) ∧ Pop p 0 b off n w w' := by
  have d0 : decide ((0 : Int) < (n : Int) + 1) = true := decide_eq_true (by omega)
  have e0 : ((n' : Int) + 1 == 0) = false := by simp; omega
  by_cases hc1 : cap = 1
  · subst hc1
    obtain rfl : n = 0 := by omega
    go_enter Try.func26, Try.ntmps26
    go_wp2_with fail
    go_quiet (fail)
    go_wp2
    go_region
    go_wp2
    go_ret2
    exact ⟨rfl, _, off, 0, rfl, Nat.le_refl _, .inl rfl⟩
  · go_enter Try.func26, Try.ntmps26
    go_wp2_with fail
    go_quiet (fail)
    go_wp2
    go_region
    go_wp2
    go_ret2
    exact ⟨rfl, _, off + 1, cap - 1, rfl, by omega, .inr rfl⟩

set_option maxHeartbeats 1000000 in
theorem next_every1 (p b' off' n' cap' : Nat) (a : Option Addr) (cap : Nat) (y : Int) (w : World) (hn' : n' ≤ 2048) (h0 : w.cell? ⟨p, 0, none⟩ = some (.slice a 0 cap)) (h1 : w.cell? ⟨p, 1, none⟩ = some (.slice (some ⟨b', off', none⟩) (n' + 1) cap')) (hy : w.cell? ⟨b', off', none⟩ = some (.int .i64 y)) (hcap' : n' + 1 ≤ cap') (hf : w.frozen? ⟨p, 1, none⟩ = false) :
    Calls Try.prog 26 #[.pointer (some ⟨p, 0, none⟩)] w fun e w' => e = .returned (.tuple #[.int .i64 y, .bool true]) ∧ Pop p 1 b' off' n' w w' := by
  have d0 : decide ((0 : Int) < 0) = false := by decide
  have d0' : decide ((0 : Int) < (n' : Int) + 1) = true := decide_eq_true (by omega)
  by_cases hc1 : cap' = 1
  · subst hc1
    obtain rfl : n' = 0 := by omega
    go_enter Try.func26, Try.ntmps26
    go_wp2_with fail
    go_quiet (fail)
    go_wp2
    go_region
    go_wp2
    go_ret2
    exact ⟨rfl, _, off', 0, rfl, Nat.le_refl _, .inl rfl⟩
  · go_enter Try.func26, Try.ntmps26
    go_wp2_with fail
    go_quiet (fail)
    go_wp2
    go_region
    go_wp2
    go_ret2
    exact ⟨rfl, _, off' + 1, cap' - 1, rfl, by omega, .inr rfl⟩

set_option maxHeartbeats 1000000 in
theorem next_every2 (p b off n cap b' off' n' cap' : Nat) (x y : Int) (w : World) (hn : n ≤ 2048) (hn' : n' ≤ 2048) (h0 : w.cell? ⟨p, 0, none⟩ = some (.slice (some ⟨b, off, none⟩) (n + 1) cap)) (hx : w.cell? ⟨b, off, none⟩ = some (.int .i64 x)) (_hcap : n + 1 ≤ cap) (h1 : w.cell? ⟨p, 1, none⟩ = some (.slice (some ⟨b', off', none⟩) (n' + 1) cap')) (hy : w.cell? ⟨b', off', none⟩ = some (.int .i64 y)) (hcap' : n' + 1 ≤ cap') (hf : w.frozen? ⟨p, 1, none⟩ = false) (hxy : ¬ x < y) :
    Calls Try.prog 26 #[.pointer (some ⟨p, 0, none⟩)] w fun e w' => e = .returned (.tuple #[.int .i64 y, .bool true]) ∧ Pop p 1 b' off' n' w w' := by
  have d0 : decide ((0 : Int) < (n : Int) + 1) = true := decide_eq_true (by omega)
  have d0' : decide ((0 : Int) < (n' : Int) + 1) = true := decide_eq_true (by omega)
  have e0 : ((n' : Int) + 1 == 0) = false := by simp; omega
  have g0 : decide (x < y) = false := decide_eq_false hxy
  by_cases hc1 : cap' = 1
  · subst hc1
    obtain rfl : n' = 0 := by omega
    go_enter Try.func26, Try.ntmps26
    go_wp2_with fail
    go_quiet (fail)
    go_wp2
    go_region
    go_wp2
    go_ret2
    exact ⟨rfl, _, off', 0, rfl, Nat.le_refl _, .inl rfl⟩
  · go_enter Try.func26, Try.ntmps26
    go_wp2_with fail
    go_quiet (fail)
    go_wp2
    go_region
    go_wp2
    go_ret2
    exact ⟨rfl, _, off' + 1, cap' - 1, rfl, by omega, .inr rfl⟩
end Go.Proofs.Qxb6003389a
