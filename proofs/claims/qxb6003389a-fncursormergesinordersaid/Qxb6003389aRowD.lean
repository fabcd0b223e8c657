import Derived.Test.Qxb6003389aRowC
namespace Go.Proofs.Qxb6003389a
open Go.RowKit

theorem own_gives {k : IntKind} {w : World} {base : Nat} {e : TypeId} {v : Value} {zs : List Int} (h : w.ownsRow base e 1 v zs.length (zs.map (Value.int k))) :
    ∃ a' cap', v = .slice a' zs.length cap' ∧ Row k w a' zs ∧ (a' = none → zs.length = 0) := by
  rcases h.2 with ⟨hv, hn⟩ | ⟨g, cap, cur, hv, -⟩
  · have : zs = [] := List.length_eq_zero_iff.1 hn
    exact ⟨none, 0, by rw [hv, hn], .inl this, fun _ => hn⟩
  · subst hv
    exact ⟨_, _, rfl, Row.ofOwn h, fun h => by cases h⟩

theorem two_cells (w : World) (x y : Value) (e : TypeId) : ∀ j u, [x, y][j]? = some u → (w.alloc (.cells #[x, y] e)).cell? ((⟨w.heap.size, 0, none⟩ : Addr).add j) = some u := by
  intro j u hj
  match j, hj with
  | 0, hj => simp at hj; subst hj; simp [Addr.add]
  | 1, hj => simp at hj; subst hj; simp [Addr.add]

theorem two_one (k : IntKind) (x y : Int) : ∀ u ∈ [Value.int k x, Value.int k y], u.oneCell' = true := by
  intro u hu
  simp at hu
  rcases hu with rfl | rfl <;> rfl

/-- One round of the complement: the pair 'lo', 'hi' is next. -/
theorem comp_put {n lo hi : Int} {acc r zs : List Int} (h : Rset.comp zs = acc ++ Rset.compF n (lo :: hi :: r)) (hlt : n < lo) : Rset.comp zs = (acc ++ [n, lo - 1]) ++ Rset.compF (hi + 1) r := by
  rw [h, Rset.compF, if_pos hlt]; simp
theorem comp_pass {n lo hi : Int} {acc r zs : List Int} (h : Rset.comp zs = acc ++ Rset.compF n (lo :: hi :: r)) (hlt : ¬ n < lo) : Rset.comp zs = acc ++ Rset.compF (hi + 1) r := by
  rw [h, Rset.compF, if_neg hlt]
theorem comp_last {n : Int} {acc zs : List Int} (h : Rset.comp zs = acc ++ Rset.compF n []) (hlt : n ≤ 1114111) : Rset.comp zs = acc ++ [n, 1114111] := by
  rw [h, Rset.compF, if_pos hlt]
  intro a b c e; cases e
theorem comp_none {n : Int} {acc zs : List Int} (h : Rset.comp zs = acc ++ Rset.compF n []) (hlt : ¬ n ≤ 1114111) : Rset.comp zs = acc := by
  rw [h, Rset.compF, if_neg hlt, List.append_nil]
  intro a b c e; cases e

theorem own_cast {w : World} {base : Nat} {e : TypeId} {v : Value} {acc : List Int} {x y : Int} (h : w.ownsRow base e 1 v (acc.length + 2) (acc.map (Value.int .i32) ++ [.int .i32 x, .int .i32 y])) :
    w.ownsRow base e 1 v (acc ++ [x, y]).length ((acc ++ [x, y]).map (Value.int .i32)) := by
  simpa using h

set_option maxHeartbeats 2000000 in
theorem comp_any (a : Option Addr) (cap n : Nat) (zs : List Int) (w : World) (hn : zs.length = n) (hm : n ≤ 65538) (hr : Row .i32 w a zs) (hcan : Hid (Rset.canon zs = true)) :
    Calls Try.prog 22 #[.slice a n cap] w fun e w' => Gives .i32 (Rset.comp zs).length (Rset.comp zs) w e w' := by
  obtain ⟨i0, hi, hz0, hz1, hz2⟩ := info_parts info21
  have HN : Hid (zs.length = n) := hn
  have HE : Hid (n % 2 = 0) := by rw [← hn]; exact Rset.canonF_even zs _ hcan.out
  have HR : Hid (Row .i32 w a zs) := hr
  clear hn hr
  go_enter Try.func22, Try.ntmps22
  go_wp2_with fail
  go_loopw [3, 4, 5] (fun v x y wr => ∃ k : Nat, ∃ nx : Int, ∃ acc : List Int, 2 * k ≤ n ∧ 0 ≤ nx ∧ nx ≤ 1114112 ∧ acc.length ≤ 2 * k ∧ x = .int .i32 nx ∧ y = .int .i64 ((2 * k : Nat) : Int) ∧
      Hid (wr.ownsRow w.heap.size 21 1 v acc.length (acc.map (Value.int .i32))) ∧ Hid (Below w.heap.size w wr) ∧ Hid (Rset.comp zs = acc ++ Rset.compF nx (zs.drop (2 * k)))) (fun _ _ y _ => n - (intOf y).toNat)
  case atStart =>
    exact ⟨0, 0, [], by omega, by omega, by omega, by simp, rfl, rfl, World.ownsRow_made w #[] 0 (Nat.le_refl _) (by unfold maxLen; omega) rfl, (Below.refl _ _).alloc (Nat.le_refl _) _, rfl⟩
  case round =>
    obtain ⟨k, nx, acc, hk, hx0, hx1, hal, rfl, rfl, ho, hb, hv⟩ := hrel
    by_cases hlt : 2 * k < n
    · have hlt1 : 2 * k + 1 < n := by have := HE.out; omega
      rcases HR.out with hz | ⟨b, off, hx, hc⟩
      · have := HN.out; rw [hz] at this; simp at this; omega
      · subst hx
        have hc0 := hc (2 * k) (by rw [HN.out]; omega)
        have hc1 := hc (2 * k + 1) (by rw [HN.out]; omega)
        have hbw : b < w.heap.size := World.block_lt_of_cell? w _ hc0
        have hr0 : wr.cell? ⟨b, off + 2 * k, none⟩ = some (.int .i32 (zs[2 * k]?.getD 0)) := by rw [hb.out.cell (by exact hbw)]; exact hc0
        have hr1 : wr.cell? ⟨b, off + (2 * k + 1), none⟩ = some (.int .i32 (zs[2 * k + 1]?.getD 0)) := by rw [hb.out.cell (by exact hbw)]; exact hc1
        obtain ⟨-, f0, f1, f2⟩ := Rset.canonF_at zs _ hcan.out k (by rw [HN.out]; omega)
        have HD : Hid (zs.drop (2 * k) = zs[2 * k]?.getD 0 :: zs[2 * k + 1]?.getD 0 :: zs.drop (2 * k + 2)) := drop_two zs (2 * k) (by rw [HN.out]; omega)
        obtain ⟨lo, hlo⟩ : ∃ lo, lo = zs[2 * k]?.getD 0 := ⟨_, rfl⟩
        obtain ⟨hh, hhi⟩ : ∃ hh, hh = zs[2 * k + 1]?.getD 0 := ⟨_, rfl⟩
        rw [← hlo] at hr0 f0 f1 HD
        rw [← hhi] at hr1 hc1 f1 f2 HD
        have HC1 : Hid (w.cell? ⟨b, off + (2 * k + 1), none⟩ = some (.int .i32 hh)) := hc1
        clear hlo hhi hc hc0 hc1
        by_cases hp : nx < lo
        · have HV : Hid (Rset.comp zs = (acc ++ [nx, lo - 1]) ++ Rset.compF (hh + 1) (zs.drop (2 * (k + 1)))) := by
            have := hv.out; rw [HD.out] at this; exact comp_put this hp
          have e3 : acc.length + 2 ≤ maxLen := by unfold maxLen; omega
          have e4 : (acc.length + 2) * 4 ≤ 140737488355328 := by omega
          have e5 : w.heap.size ≤ (wr.alloc (.cells #[.int .i32 nx, .int .i32 (lo - 1)] 21)).heap.size := by have := hb.out.size; simp; omega
          go_wp2_with (at_builtin; refine wpList_append_own _ rfl (.tmp 19) (.tmp 26) 39 rfl w.heap.size 21 i0 (.int .i32 0) 1 4 Try.underlying39 hi hz0 hz1 hz2 rfl (by decide) _ acc.length (acc.map (Value.int .i32)) rfl (ho.out.alloc _) ⟨wr.heap.size, 0, none⟩ 2 2 [.int .i32 nx, .int .i32 (lo - 1)] rfl rfl (two_cells _ _ _ _) (two_one _ _ _) e3 e4 e5 ?_; intro v' w1 hown' hgrow _; have hb1 : Below w.heap.size w w1 := (hb.out.alloc (by have := hb.out.size; omega) _).grown hgrow e5 (fun k hk => (ho.out.lt k hk).1); have hr2 : w1.cell? ⟨b, off + (2 * k + 1), none⟩ = some (.int .i32 hh) := (hb1.cell hbw).trans HC1.out; have HO : Hid (w1.ownsRow w.heap.size 21 1 v' (acc ++ [nx, lo - 1]).length ((acc ++ [nx, lo - 1]).map (Value.int .i32))) := own_cast hown'; have HB : Hid (Below w.heap.size w w1) := hb1; clear e3 e4 e5 hown' hgrow hb1 ho hb)
          go_roundw
          case rel => exact ⟨k + 1, hh + 1, acc ++ [nx, lo - 1], by omega, by omega, by omega, by simp; omega, by go_num, by go_num, HO, HB, HV⟩
          case measure => simp [intOf]; omega
        · have HV : Hid (Rset.comp zs = acc ++ Rset.compF (hh + 1) (zs.drop (2 * (k + 1)))) := by
            have := hv.out; rw [HD.out] at this; exact comp_pass this hp
          go_wp2_with fail
          go_roundw
          case rel => exact ⟨k + 1, hh + 1, acc, by omega, by omega, by omega, by omega, by go_num, by go_num, ho, hb, HV⟩
          case measure => simp [intOf]; omega
    · have hv' : Hid (Rset.comp zs = acc ++ Rset.compF nx []) := by
        have := hv.out; rw [List.drop_eq_nil_of_le (by rw [HN.out]; omega)] at this; exact this
      by_cases hp : nx ≤ 1114111
      · have HV : Hid (Rset.comp zs = acc ++ [nx, 1114111]) := comp_last hv'.out hp
        have e3 : acc.length + 2 ≤ maxLen := by unfold maxLen; omega
        have e4 : (acc.length + 2) * 4 ≤ 140737488355328 := by omega
        have e5 : w.heap.size ≤ (wr.alloc (.cells #[.int .i32 nx, .int .i32 1114111] 21)).heap.size := by have := hb.out.size; simp; omega
        go_wp2_with (at_builtin; refine wpList_append_own _ rfl (.tmp 36) (.tmp 38) 39 rfl w.heap.size 21 i0 (.int .i32 0) 1 4 Try.underlying39 hi hz0 hz1 hz2 rfl (by decide) _ acc.length (acc.map (Value.int .i32)) rfl (ho.out.alloc _) ⟨wr.heap.size, 0, none⟩ 2 2 [.int .i32 nx, .int .i32 1114111] rfl rfl (two_cells _ _ _ _) (two_one _ _ _) e3 e4 e5 ?_; intro v' w1 hown' hgrow _; have hb1 : Below w.heap.size w w1 := (hb.out.alloc (by have := hb.out.size; omega) _).grown hgrow e5 (fun k hk => (ho.out.lt k hk).1); have HO : Hid (w1.ownsRow w.heap.size 21 1 v' (acc ++ [nx, 1114111]).length ((acc ++ [nx, 1114111]).map (Value.int .i32))) := own_cast hown'; have HB : Hid (Below w.heap.size w w1) := hb1; clear e3 e4 e5 hown' hgrow hb1 ho hb)
        go_ret
        rw [HV.out]
        obtain ⟨a', cap', rfl, g2, g3⟩ := own_gives HO.out
        exact ⟨a', cap', rfl, g2, g3, HB⟩
      · have HV : Hid (Rset.comp zs = acc) := comp_none hv'.out hp
        go_wp2_with fail
        go_ret
        rw [HV.out]
        obtain ⟨a', cap', rfl, g2, g3⟩ := own_gives ho.out
        exact ⟨a', cap', rfl, g2, g3, hb⟩
end Go.Proofs.Qxb6003389a
