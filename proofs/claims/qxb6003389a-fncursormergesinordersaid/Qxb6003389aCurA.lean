import Derived.Test.Qxb6003389aRowD
import Derived.Test.Qxb6003389aMrg
import Derived.BigRegion
namespace Go.Proofs.Qxb6003389a
open Go.RowKit

theorem info3 : (Try.prog.info? 3).map (fun i => (i.zero, i.size, i.bytes)) = some (some (.int .i64 0), 1, 8) := by kernel_rfl

/-- What a copy hands back, its capacity too. -/
def GivesN (k : IntKind) (n : Nat) (zs : List Int) (w : World) (e : Ending) (w' : World) : Prop := ∃ a' cap', e = .returned (.slice a' n cap') ∧ Row k w' a' zs ∧ n ≤ cap' ∧ Below w.heap.size w w'

set_option maxHeartbeats 1000000 in
theorem clone64_any (a : Option Addr) (cap n : Nat) (zs : List Int) (w : World) (hn : zs.length = n) (hm : n ≤ 65536) (hr : Row .i64 w a zs) (hnil : a = none → n = 0) :
    Calls Try.prog 17 #[.slice a n cap] w fun e w' => GivesN .i64 n zs w e w' := by
  have q30 : ∀ (w : World) (a : Option Addr) (n c n' c' : Nat), (binOp .eql 30 (.slice a n c) (.slice none n' c')).run Try.prog w = .ok (.bool a.isNone) w := fun w a n c n' c' => Lib.run_eql_slice_nil w _ _ a n c n' c' Try.underlying30
  obtain ⟨i0, hi, hz0, hz1, hz2⟩ := info_parts info3
  have HN : Hid (zs.length = n) := hn
  have HI : Hid (i0.bytes = 8) := hz2
  clear hn
  match a, hr, hnil with
  | none, hr, hnil =>
    obtain rfl : n = 0 := hnil rfl
    obtain rfl : zs = [] := List.length_eq_zero_iff.1 HN.out
    clear hi hz0 hz1 hz2
    go_enter Try.func17, Try.ntmps17
    go_wp2
    go_ret
    exact ⟨none, 0, rfl, .inl rfl, Nat.le_refl _, Below.refl _ _⟩
  | some x, hr, hnil =>
    clear hnil hz2
    have HR : Hid (Row .i64 w (some x) zs) := hr
    clear hr
    go_enter Try.func17, Try.ntmps17
    have e0 : i0.bytes * n ≤ 281474976710656 := by rw [HI.out]; omega
    have e1 : n ≤ maxLen := by unfold maxLen; omega
    go_wp2_with (at_make; refine wpList_make_full _ rfl (.tmp 8) (.tmp 8) 30 rfl w.heap.size 3 i0 (.int .i64 0) 1 Try.underlying30 hi hz0 hz1 .i64 .i64 _ _ n rfl rfl rfl rfl e0 e1 (Nat.le_refl _) ?_; intro w1 hown hgrow; clear e0 e1)
    have hb1 : Below w.heap.size w w1 := (Below.refl _ _).grown hgrow (Nat.le_refl _) (by intro k hk; cases hk)
    have hown1 : w1.ownsRow w.heap.size 3 1 (.slice (some ⟨w.heap.size, 0, none⟩) n n) n (part .i64 zs 0) := by
      rw [part_zero, HN.out]
      have := hown
      rw [show (Value.int .i64 0).cells = #[Value.int .i64 0] from rfl, toList_madeCells_one] at this
      simpa using this
    have HO : Hid (w1.ownsRow w.heap.size 3 1 (.slice (some ⟨w.heap.size, 0, none⟩) n n) n (part .i64 zs 0)) := hown1
    have HB : Hid (Below w.heap.size w w1) := hb1
    clear hown hown1 hgrow hb1
    go_loopw [4] (fun y wr => ∃ k : Nat, k ≤ n ∧ y = .int .i64 k ∧ Hid (wr.ownsRow w.heap.size 3 1 (.slice (some ⟨w.heap.size, 0, none⟩) n n) n (part .i64 zs k)) ∧ Hid (Below w.heap.size w wr)) (fun y _ => n - (intOf y).toNat)
    case atStart => exact ⟨0, by omega, rfl, HO, HB⟩
    case round =>
      obtain ⟨k, hk, rfl, ho, hb⟩ := hrel
      by_cases hlt : k < n
      · rcases HR.out with hz | ⟨b, off, hx, hc⟩
        · have := HN.out; rw [hz] at this; simp at this; omega
        · cases hx
          have hc0 := hc k (by rw [HN.out]; omega)
          have hbw := World.block_lt_of_cell? w _ hc0
          have hcr : wr.cell? ⟨b, off + k, none⟩ = some (.int .i64 (zs[k]?.getD 0)) := by rw [hb.out.cell (by exact hbw)]; exact hc0
          have hd0 : wr.cell? ⟨w.heap.size, k, none⟩ = some (.int .i64 0) := by rw [ho.out.cellAt k (by omega)]; exact part_get _ _ _ (by rw [HN.out]; omega)
          have hfz : wr.frozen? ⟨w.heap.size, k, none⟩ = false := ho.out.frozenAt k
          obtain ⟨z, hz⟩ : ∃ z, z = zs[k]?.getD 0 := ⟨_, rfl⟩
          rw [← hz] at hcr
          have hst := ho.out.stored k (.int .i64 z)
          have HS : Hid ((wr.setCell ⟨w.heap.size, k, none⟩ (.int .i64 z)).ownsRow w.heap.size 3 1 (.slice (some ⟨w.heap.size, 0, none⟩) n n) n (part .i64 zs (k + 1))) := by
            rw [← part_set .i64 zs k (by rw [HN.out]; omega), ← hz]; exact hst.1
          have HB' : Hid (Below w.heap.size w (wr.setCell ⟨w.heap.size, k, none⟩ (.int .i64 z))) := hb.out.setCell (Nat.le_refl _) _
          clear hst hz hc0 hc
          go_wp2_with fail
          go_roundw
          case rel => exact ⟨k + 1, by omega, by go_num, HS, HB'⟩
          case measure => simp [intOf]; omega
      · go_wp2_with fail
        go_ret
        obtain rfl : k = n := by omega
        refine ⟨_, _, rfl, ?_, Nat.le_refl _, hb⟩
        have := ho.out
        have e := part_end .i64 zs
        rw [HN.out] at e
        rw [e] at this
        exact Row.ofOwn this
set_option maxHeartbeats 1000000 in
theorem equal64_any (a a' : Option Addr) (cap cap' n : Nat) (zs : List Int) (w : World) (hn : zs.length = n) (hm : n ≤ 65540) (hr : Row .i64 w a zs) (hr' : Row .i64 w a' zs) :
    Calls Try.prog 21 #[.slice a n cap, .slice a' n cap'] w fun e w' => ∃ m, e = .returned (.bool true) ∧ w' = w.drewN m := by
  have HN : Hid (zs.length = n) := hn
  have HR : Hid (Row .i64 w a zs) := hr
  have HR' : Hid (Row .i64 w a' zs) := hr'
  clear hn hr hr'
  go_enter Try.func21, Try.ntmps21
  go_wp2_with fail
  go_loopw [5] (fun y wr => ∃ k m : Nat, k ≤ n ∧ y = .int .i64 k ∧ wr = w.drewN m) (fun y _ => n - (intOf y).toNat)
  case atStart => exact ⟨0, 0, by omega, rfl, rfl⟩
  case round =>
    obtain ⟨k, m, hk, rfl, rfl⟩ := hrel
    by_cases hlt : k < n
    · rcases HR.out with hz | ⟨b, off, hx, hc⟩
      · have := HN.out; rw [hz] at this; simp at this; omega
      · rcases HR'.out with hz | ⟨b', off', hx', hc'⟩
        · have := HN.out; rw [hz] at this; simp at this; omega
        · subst hx hx'
          have h1 := hc k (by rw [HN.out]; exact hlt)
          have h2 := hc' k (by rw [HN.out]; exact hlt)
          obtain ⟨z, hz⟩ : ∃ z, z = zs[k]?.getD 0 := ⟨_, rfl⟩
          rw [← hz] at h1 h2
          clear hz hc hc'
          go_wp2_with fail
          go_quiet (fail)
          go_wp2
          go_roundw
          case rel => exact ⟨k + 1, _, by omega, by go_num, rfl⟩
          case measure => simp [intOf]; omega
    · go_wp2_with fail
      go_ret
      exact ⟨m, rfl, rfl⟩


set_option maxHeartbeats 1000000 in
theorem nondec_any (a : Option Addr) (cap n : Nat) (zs : List Int) (w : World) (hn : zs.length = n) (hm : n ≤ 1024) (hr : Row .i64 w a zs) :
    Calls Try.prog 16 #[.slice a n cap] w fun e w' => ∃ m, e = .returned (.bool (Mrg.nondec zs)) ∧ w' = w.drewN m := by
  have HN : Hid (zs.length = n) := hn
  have HR : Hid (Row .i64 w a zs) := hr
  clear hn hr
  go_enter Try.func16, Try.ntmps16
  go_wp2_with fail
  go_loopw [3] (fun y wr => ∃ k m : Nat, k ≤ n ∧ y = .int .i64 ((k + 1 : Nat) : Int) ∧ wr = w.drewN m ∧ Hid (Mrg.nondec (zs.drop k) = Mrg.nondec zs)) (fun y _ => n + 1 - (intOf y).toNat)
  case atStart => exact ⟨0, 0, by omega, rfl, rfl, rfl⟩
  case round =>
    obtain ⟨k, m, hk, rfl, rfl, hv⟩ := hrel
    by_cases hlt : k + 1 < n
    · rcases HR.out with hz | ⟨b, off, hx, hc⟩
      · have := HN.out; rw [hz] at this; simp at this; omega
      · subst hx
        have h1 := hc k (by rw [HN.out]; omega)
        have h2 := hc (k + 1) (by rw [HN.out]; exact hlt)
        have HS : Hid (Mrg.nondec (zs.drop k) = (decide (zs[k]?.getD 0 ≤ zs[k + 1]?.getD 0) && Mrg.nondec (zs.drop (k + 1)))) := Mrg.nondec_step zs k (by rw [HN.out]; exact hlt)
        obtain ⟨x, hx⟩ : ∃ x, x = zs[k]?.getD 0 := ⟨_, rfl⟩
        obtain ⟨y, hy⟩ : ∃ y, y = zs[k + 1]?.getD 0 := ⟨_, rfl⟩
        rw [← hx] at h1 HS
        rw [← hy] at h2 HS
        clear hx hy hc
        by_cases hxy : x ≤ y
        · have HV : Hid (Mrg.nondec (zs.drop (k + 1)) = Mrg.nondec zs) := by rw [← hv.out, HS.out, decide_eq_true hxy, Bool.true_and]; rfl
          go_wp2_with fail
          go_quiet (fail)
          go_wp2
          go_roundw
          case rel => exact ⟨k + 1, _, by omega, by go_num, rfl, HV⟩
          case measure => simp [intOf]; omega
        · have HV : Hid (Mrg.nondec zs = false) := by rw [← hv.out, HS.out, decide_eq_false hxy, Bool.false_and]; rfl
          go_wp2_with fail
          go_quiet (fail)
          go_wp2
          go_ret
          exact ⟨_, ret_bool' HV.out.symm, World.drewN_drewN _ _ _⟩
    · go_wp2_with fail
      go_ret
      exact ⟨m, ret_bool' (by rw [← hv.out, Mrg.nondec_end zs k (by rw [HN.out]; omega)]), rfl⟩

set_option maxHeartbeats 400000 in
theorem bytesM_yes (a a' : Option Addr) (n cap n' cap' : Nat) (w : World) (h : n ≤ 1048576) (h' : n' ≤ 1048576) (hs : n + n' ≤ 1048576) :
    Calls Try.prog 15 #[.slice a n cap, .slice a' n' cap'] w fun e w' => e = .returned (.bool true) ∧ w' = w := by
  go_enter Try.func15, Try.ntmps15
  go_wp2
  go_ret
  exact ⟨rfl, rfl⟩
set_option maxHeartbeats 400000 in
theorem bytesM_no (a a' : Option Addr) (n cap n' cap' : Nat) (w : World) (hm : n ≤ maxLen) (hm' : n' ≤ maxLen) (hs : ¬ n + n' ≤ 1048576) :
    Calls Try.prog 15 #[.slice a n cap, .slice a' n' cap'] w fun e w' => e = .returned (.bool false) ∧ w' = w := by
  unfold maxLen at hm hm'
  by_cases h : n ≤ 1048576
  · by_cases h' : n' ≤ 1048576
    · go_enter Try.func15, Try.ntmps15
      go_wp2
      go_ret
      exact ⟨rfl, rfl⟩
    · go_enter Try.func15, Try.ntmps15
      go_wp2
      go_ret
      exact ⟨rfl, rfl⟩
  · go_enter Try.func15, Try.ntmps15
    go_wp2
    go_ret
    exact ⟨rfl, rfl⟩
end Go.Proofs.Qxb6003389a
