import Derived.Test.Qxb6603764aRows
import Derived.WalkKit
import Derived.WalkSpells
import Derived.WalkLawsBesides
import Derived.Outline
import Derived.Deep.QuietTactic
import Derived.BigQuiet
namespace Go.Proofs.Qxb6603764a
open Go.RowKit

theorem ret_bool {a b : Bool} (h : a = b) : Ending.returned (.bool a) = .returned (.bool b) := by rw [h]

/-- The kinds that queue with 'k'. -/
def kinds (k : Int) : List Int := if k = 1 ∨ k = 2 then [1, 2] else [k]
def cellsOf (k : Int) : Array Value := ((kinds k).map (Value.int .i64)).toArray
def kin (zs : List Int) (k : Int) : Bool := decide (k ∈ zs)

theorem kinds_rw {k : Int} (h : k = 1 ∨ k = 2) : kinds k = [1, 2] := if_pos h
theorem kinds_own {k : Int} (h : ¬ (k = 1 ∨ k = 2)) : kinds k = [k] := if_neg h
theorem cells_rw {k : Int} (h : k = 1 ∨ k = 2) : cellsOf k = #[.int .i64 1, .int .i64 2] := by unfold cellsOf; rw [kinds_rw h]; rfl
theorem cells_own {k : Int} (h : ¬ (k = 1 ∨ k = 2)) : cellsOf k = #[.int .i64 k] := by unfold cellsOf; rw [kinds_own h]; rfl

set_option maxHeartbeats 400000 in
theorem queueKinds_any (k : Int) (w : World) :
    Calls Try.prog 16 #[.int .i64 k] w fun e w' => e = .returned (.slice (some ⟨w.heap.size, 0, none⟩) (kinds k).length (kinds k).length) ∧ w' = w.alloc (.cells (cellsOf k) 27) := by
  by_cases h1 : k = 1
  · rw [kinds_rw (.inl h1), cells_rw (.inl h1)]
    subst h1
    go_enter Try.func16, Try.ntmps16
    go_wp2
    go_ret
    exact ⟨rfl, rfl⟩
  · by_cases h2 : k = 2
    · rw [kinds_rw (.inr h2), cells_rw (.inr h2)]
      subst h2
      go_enter Try.func16, Try.ntmps16
      go_wp2
      go_ret
      exact ⟨rfl, rfl⟩
    · have hn : ¬ (k = 1 ∨ k = 2) := by omega
      rw [kinds_own hn, cells_own hn]
      have e1 : (k == 1) = false := beq_eq_false_iff_ne.2 h1
      have e2 : (k == 2) = false := beq_eq_false_iff_ne.2 h2
      clear h1 h2 hn
      go_enter Try.func16, Try.ntmps16
      go_wp2
      go_ret
      exact ⟨rfl, rfl⟩

set_option maxHeartbeats 400000 in
theorem zzkinds_any (k : Int) (w : World) :
    Calls Try.prog 12 #[.int .i64 k] w fun e w' => e = .returned (.slice (some ⟨w.heap.size, 0, none⟩) (kinds k).length (kinds k).length) ∧ w' = w.alloc (.cells (cellsOf k) 27) := by
  go_enter Try.func12, Try.ntmps12
  go_wp2_with fail
  refine (queueKinds_any k w).mono ?_
  rintro e w' ⟨rfl, rfl⟩
  go_wp2_with fail
  go_ret
  exact ⟨rfl, rfl⟩

/-- The block 'b' holds the numbers 'zs'. -/
def Holds (w : World) (b : Nat) (zs : List Int) : Prop := ∀ i, i < zs.length → w.cell? ⟨b, i, none⟩ = some (.int .i64 (zs[i]?.getD 0))

theorem kin_step (zs : List Int) (k : Int) (j : Nat) (hj : j < zs.length) : kin (zs.drop j) k = (zs[j]?.getD 0 == k || kin (zs.drop (j + 1)) k) := by
  unfold kin
  rw [List.drop_eq_getElem_cons hj, List.getElem?_eq_getElem hj, Bool.eq_iff_iff]
  simp only [Option.getD_some, decide_eq_true_eq, List.mem_cons, Bool.or_eq_true, beq_iff_eq]
  exact or_congr_left eq_comm

set_option maxHeartbeats 400000 in
theorem kindIn_any (k : Int) (b n cap : Nat) (zs : List Int) (w : World) (hn : zs.length = n) (hm : n ≤ 2) (hh : Holds w b zs) :
    Calls Try.prog 13 #[.int .i64 k, .slice (some ⟨b, 0, none⟩) n cap] w fun e w' => e = .returned (.bool (kin zs k)) ∧ w' = w := by
  have HN : Hid (zs.length = n) := hn
  have HH : Hid (Holds w b zs) := hh
  clear hn hh
  go_enter Try.func13, Try.ntmps13
  go_wp2
  go_loop [5] (fun y => ∃ j : Nat, j ≤ n ∧ y = .int .i64 j ∧ Hid (kin (zs.drop j) k = kin zs k)) (fun y => n - (intOf y).toNat)
  case atStart => exact ⟨0, by omega, rfl, rfl⟩
  case round =>
    obtain ⟨j, hj, rfl, hv⟩ := hrel
    by_cases hlt : j < n
    · have hc := HH.out j (by rw [HN.out]; exact hlt)
      have HS : Hid (kin (zs.drop j) k = (zs[j]?.getD 0 == k || kin (zs.drop (j + 1)) k)) := kin_step zs k j (by rw [HN.out]; exact hlt)
      obtain ⟨z, hz⟩ : ∃ z, z = zs[j]?.getD 0 := ⟨_, rfl⟩
      rw [← hz] at hc HS
      clear hz
      by_cases e : (z == k) = true
      · have HV : Hid (kin zs k = true) := by rw [← hv.out, HS.out, e]; rfl
        go_wp2
        go_ret
        exact ⟨ret_bool HV.out.symm, rfl⟩
      · have e' : (z == k) = false := by simpa using e
        clear e
        have HV : Hid (kin (zs.drop (j + 1)) k = kin zs k) := by rw [← hv.out, HS.out, e']; rfl
        go_wp2
        go_round
        case rel => exact ⟨j + 1, by omega, by go_num, HV⟩
        case measure => simp [intOf]; omega
    · go_wp2
      go_ret
      exact ⟨ret_bool (by rw [← hv.out, List.drop_eq_nil_of_le (by rw [HN.out]; omega)]; rfl), rfl⟩
end Go.Proofs.Qxb6603764a
