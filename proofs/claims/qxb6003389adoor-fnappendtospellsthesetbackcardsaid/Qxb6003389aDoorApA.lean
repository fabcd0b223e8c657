import Derived.Test.Qxb6003389aDoorFmtD
import Derived.Lib.SliceRun
namespace Go.Proofs.Qxb6003389aDoor
open Go.RowKit

theorem info21 : (Tryd.prog.info? 21).map (fun i => (i.zero, i.size, i.bytes)) = some (some (.int .i32 0), 1, 4) := by kernel_rfl

/-- A row of integers that reads as 'zs'. -/
def Row (k : IntKind) (w : World) (a : Option Addr) (zs : List Int) : Prop := zs = [] ∨ ∃ b off, a = some ⟨b, off, none⟩ ∧ ∀ i, i < zs.length → w.cell? ⟨b, off + i, none⟩ = some (.int k (zs[i]?.getD 0))

theorem Row.below {k : IntKind} {w w' : World} {a : Option Addr} {zs : List Int} (h : Row k w a zs) (hb : Below w.heap.size w w') : Row k w' a zs := by
  rcases h with h | ⟨b, off, rfl, hc⟩
  · exact .inl h
  · refine .inr ⟨b, off, rfl, fun i hi => ?_⟩
    rw [hb.cell (by exact World.block_lt_of_cell? w _ (hc i hi))]
    exact hc i hi
theorem Row.drewN {k : IntKind} {w : World} {a : Option Addr} {zs : List Int} (h : Row k w a zs) (m : Nat) : Row k (w.drewN m) a zs := h

/-- The cells of a copy that has come as far as 'k'. -/
def part (k : IntKind) (zs : List Int) (j : Nat) : List Value := (zs.take j).map (Value.int k) ++ List.replicate (zs.length - j) (.int k 0)
theorem part_zero (k : IntKind) (zs : List Int) : part k zs 0 = List.replicate zs.length (.int k 0) := by simp [part]
theorem part_end (k : IntKind) (zs : List Int) : part k zs zs.length = zs.map (Value.int k) := by simp [part]
theorem part_set (k : IntKind) (zs : List Int) (j : Nat) (h : j < zs.length) : (part k zs j).set j (.int k (zs[j]?.getD 0)) = part k zs (j + 1) := by
  unfold part
  have hl : ((zs.take j).map (Value.int k)).length = j := by simp; omega
  rw [List.set_append_right _ _ (by omega), hl, Nat.sub_self]
  rw [show zs.length - j = (zs.length - (j + 1)) + 1 from by omega, List.replicate_succ, List.set_cons_zero]
  rw [List.take_succ_eq_append_getElem h, List.map_append, List.append_assoc]
  simp [h]
theorem part_get (k : IntKind) (zs : List Int) (j : Nat) (h : j < zs.length) : (part k zs j)[j]? = some (.int k 0) := by
  unfold part
  have hl : ((zs.take j).map (Value.int k)).length = j := by simp; omega
  rw [List.getElem?_append_right (by omega), hl, Nat.sub_self, List.getElem?_replicate, if_pos (by omega)]

/-- What a copy hands back: a row of its own, full. -/
def Cl (E : TypeId) (k : IntKind) (n : Nat) (zs : List Int) (w : World) (e : Ending) (w' : World) : Prop :=
  ∃ a', e = .returned (.slice a' n n) ∧ w'.ownsRow w.heap.size E 1 (.slice a' n n) n (zs.map (Value.int k)) ∧ Below w.heap.size w w'

set_option maxHeartbeats 1000000 in
theorem clone32_any (a : Option Addr) (cap n : Nat) (zs : List Int) (w : World) (hn : zs.length = n) (hm : n ≤ 65536) (hr : Hid (Row .i32 w a zs)) (hnil : a = none → n = 0) :
    Calls Tryd.prog 10 #[.slice a n cap] w fun e w' => Cl 21 .i32 n zs w e w' := by
  have q22 : ∀ (w : World) (a : Option Addr) (n c n' c' : Nat), (binOp .eql 22 (.slice a n c) (.slice none n' c')).run Tryd.prog w = .ok (.bool a.isNone) w := fun w a n c n' c' => Lib.run_eql_slice_nil w _ _ a n c n' c' Tryd.underlying22
  obtain ⟨i0, hi, hz0, hz1, hz2⟩ := info_parts info21
  have HN : Hid (zs.length = n) := hn
  have HI : Hid (i0.bytes = 4) := hz2
  clear hn
  match a, hr, hnil with
  | none, hr, hnil =>
    obtain rfl : n = 0 := hnil rfl
    obtain rfl : zs = [] := List.length_eq_zero_iff.1 HN.out
    clear hi hz0 hz1 hz2
    go_enter Tryd.func10, Tryd.ntmps10
    go_wp2
    go_ret
    exact ⟨none, rfl, World.ownsRow_nil _ _ _ _, Below.refl _ _⟩
  | some x, hr, hnil =>
    clear hnil hz2
    have HR : Hid (Row .i32 w (some x) zs) := hr
    clear hr
    go_enter Tryd.func10, Tryd.ntmps10
    have e0 : i0.bytes * n ≤ 281474976710656 := by rw [HI.out]; omega
    have e1 : n ≤ maxLen := by unfold maxLen; omega
    go_wp2_with (at_make; refine wpList_make_full _ rfl (.tmp 8) (.tmp 8) 22 rfl w.heap.size 21 i0 (.int .i32 0) 1 Tryd.underlying22 hi hz0 hz1 .i64 .i64 _ _ n rfl rfl rfl rfl e0 e1 (Nat.le_refl _) ?_; intro w1 hown hgrow; clear e0 e1)
    have hb1 : Below w.heap.size w w1 := (Below.refl _ _).grown hgrow (Nat.le_refl _) (by intro k hk; cases hk)
    have hown1 : w1.ownsRow w.heap.size 21 1 (.slice (some ⟨w.heap.size, 0, none⟩) n n) n (part .i32 zs 0) := by
      rw [part_zero, HN.out]
      have := hown
      rw [show (Value.int .i32 0).cells = #[Value.int .i32 0] from rfl, toList_madeCells_one] at this
      simpa using this
    have HO : Hid (w1.ownsRow w.heap.size 21 1 (.slice (some ⟨w.heap.size, 0, none⟩) n n) n (part .i32 zs 0)) := hown1
    have HB : Hid (Below w.heap.size w w1) := hb1
    clear hown hown1 hgrow hb1
    go_loopw [4] (fun y wr => ∃ k : Nat, k ≤ n ∧ y = .int .i64 k ∧ Hid (wr.ownsRow w.heap.size 21 1 (.slice (some ⟨w.heap.size, 0, none⟩) n n) n (part .i32 zs k)) ∧ Hid (Below w.heap.size w wr)) (fun y _ => n - (intOf y).toNat)
    case atStart => exact ⟨0, by omega, rfl, HO, HB⟩
    case round =>
      obtain ⟨k, hk, rfl, ho, hb⟩ := hrel
      by_cases hlt : k < n
      · rcases HR.out with hz | ⟨b, off, hx, hc⟩
        · have := HN.out; rw [hz] at this; simp at this; omega
        · cases hx
          have hc0 := hc k (by rw [HN.out]; omega)
          have hbw := World.block_lt_of_cell? w _ hc0
          have hcr : wr.cell? ⟨b, off + k, none⟩ = some (.int .i32 (zs[k]?.getD 0)) := by rw [hb.out.cell (by exact hbw)]; exact hc0
          have hd0 : wr.cell? ⟨w.heap.size, k, none⟩ = some (.int .i32 0) := by rw [ho.out.cellAt k (by omega)]; exact part_get _ _ _ (by rw [HN.out]; omega)
          have hfz : wr.frozen? ⟨w.heap.size, k, none⟩ = false := ho.out.frozenAt k
          obtain ⟨z, hz⟩ : ∃ z, z = zs[k]?.getD 0 := ⟨_, rfl⟩
          rw [← hz] at hcr
          have hst := ho.out.stored k (.int .i32 z)
          have HS : Hid ((wr.setCell ⟨w.heap.size, k, none⟩ (.int .i32 z)).ownsRow w.heap.size 21 1 (.slice (some ⟨w.heap.size, 0, none⟩) n n) n (part .i32 zs (k + 1))) := by
            rw [← part_set .i32 zs k (by rw [HN.out]; omega), ← hz]; exact hst.1
          have HB' : Hid (Below w.heap.size w (wr.setCell ⟨w.heap.size, k, none⟩ (.int .i32 z))) := hb.out.setCell (Nat.le_refl _) _
          clear hst hz hc0 hc
          go_wp2_with fail
          go_roundw
          case rel => exact ⟨k + 1, by omega, by go_num, HS, HB'⟩
          case measure => simp [intOf]; omega
      · go_wp2_with fail
        go_ret
        obtain rfl : k = n := by omega
        refine ⟨_, rfl, ?_, hb⟩
        have := ho.out
        have e := part_end .i32 zs
        rw [HN.out] at e
        rw [e] at this
        exact this

set_option maxHeartbeats 1000000 in
theorem clone8_any (a : Option Addr) (cap n : Nat) (zs : List Int) (w : World) (hn : zs.length = n) (hm : n ≤ 65536) (hr : Hid (Row .u8 w a zs)) (hnil : a = none → n = 0) :
    Calls Tryd.prog 11 #[.slice a n cap] w fun e w' => Cl 5 .u8 n zs w e w' := by
  have q22 : ∀ (w : World) (a : Option Addr) (n c n' c' : Nat), (binOp .eql 23 (.slice a n c) (.slice none n' c')).run Tryd.prog w = .ok (.bool a.isNone) w := fun w a n c n' c' => Lib.run_eql_slice_nil w _ _ a n c n' c' Tryd.underlying23
  obtain ⟨i0, hi, hz0, hz1, hz2⟩ := info_parts info5
  have HN : Hid (zs.length = n) := hn
  have HI : Hid (i0.bytes = 1) := hz2
  clear hn
  match a, hr, hnil with
  | none, hr, hnil =>
    obtain rfl : n = 0 := hnil rfl
    obtain rfl : zs = [] := List.length_eq_zero_iff.1 HN.out
    clear hi hz0 hz1 hz2
    go_enter Tryd.func11, Tryd.ntmps11
    go_wp2
    go_ret
    exact ⟨none, rfl, World.ownsRow_nil _ _ _ _, Below.refl _ _⟩
  | some x, hr, hnil =>
    clear hnil hz2
    have HR : Hid (Row .u8 w (some x) zs) := hr
    clear hr
    go_enter Tryd.func11, Tryd.ntmps11
    have e0 : i0.bytes * n ≤ 281474976710656 := by rw [HI.out]; omega
    have e1 : n ≤ maxLen := by unfold maxLen; omega
    go_wp2_with (at_make; refine wpList_make_full _ rfl (.tmp 8) (.tmp 8) 23 rfl w.heap.size 5 i0 (.int .u8 0) 1 Tryd.underlying23 hi hz0 hz1 .i64 .i64 _ _ n rfl rfl rfl rfl e0 e1 (Nat.le_refl _) ?_; intro w1 hown hgrow; clear e0 e1)
    have hb1 : Below w.heap.size w w1 := (Below.refl _ _).grown hgrow (Nat.le_refl _) (by intro k hk; cases hk)
    have hown1 : w1.ownsRow w.heap.size 5 1 (.slice (some ⟨w.heap.size, 0, none⟩) n n) n (part .u8 zs 0) := by
      rw [part_zero, HN.out]
      have := hown
      rw [show (Value.int .u8 0).cells = #[Value.int .u8 0] from rfl, toList_madeCells_one] at this
      simpa using this
    have HO : Hid (w1.ownsRow w.heap.size 5 1 (.slice (some ⟨w.heap.size, 0, none⟩) n n) n (part .u8 zs 0)) := hown1
    have HB : Hid (Below w.heap.size w w1) := hb1
    clear hown hown1 hgrow hb1
    go_loopw [4] (fun y wr => ∃ k : Nat, k ≤ n ∧ y = .int .i64 k ∧ Hid (wr.ownsRow w.heap.size 5 1 (.slice (some ⟨w.heap.size, 0, none⟩) n n) n (part .u8 zs k)) ∧ Hid (Below w.heap.size w wr)) (fun y _ => n - (intOf y).toNat)
    case atStart => exact ⟨0, by omega, rfl, HO, HB⟩
    case round =>
      obtain ⟨k, hk, rfl, ho, hb⟩ := hrel
      by_cases hlt : k < n
      · rcases HR.out with hz | ⟨b, off, hx, hc⟩
        · have := HN.out; rw [hz] at this; simp at this; omega
        · cases hx
          have hc0 := hc k (by rw [HN.out]; omega)
          have hbw := World.block_lt_of_cell? w _ hc0
          have hcr : wr.cell? ⟨b, off + k, none⟩ = some (.int .u8 (zs[k]?.getD 0)) := by rw [hb.out.cell (by exact hbw)]; exact hc0
          have hd0 : wr.cell? ⟨w.heap.size, k, none⟩ = some (.int .u8 0) := by rw [ho.out.cellAt k (by omega)]; exact part_get _ _ _ (by rw [HN.out]; omega)
          have hfz : wr.frozen? ⟨w.heap.size, k, none⟩ = false := ho.out.frozenAt k
          obtain ⟨z, hz⟩ : ∃ z, z = zs[k]?.getD 0 := ⟨_, rfl⟩
          rw [← hz] at hcr
          have hst := ho.out.stored k (.int .u8 z)
          have HS : Hid ((wr.setCell ⟨w.heap.size, k, none⟩ (.int .u8 z)).ownsRow w.heap.size 5 1 (.slice (some ⟨w.heap.size, 0, none⟩) n n) n (part .u8 zs (k + 1))) := by
            rw [← part_set .u8 zs k (by rw [HN.out]; omega), ← hz]; exact hst.1
          have HB' : Hid (Below w.heap.size w (wr.setCell ⟨w.heap.size, k, none⟩ (.int .u8 z))) := hb.out.setCell (Nat.le_refl _) _
          clear hst hz hc0 hc
          go_wp2_with fail
          go_roundw
          case rel => exact ⟨k + 1, by omega, by go_num, HS, HB'⟩
          case measure => simp [intOf]; omega
      · go_wp2_with fail
        go_ret
        obtain rfl : k = n := by omega
        refine ⟨_, rfl, ?_, hb⟩
        have := ho.out
        have e := part_end .u8 zs
        rw [HN.out] at e
        rw [e] at this
        exact this
end Go.Proofs.Qxb6003389aDoor
