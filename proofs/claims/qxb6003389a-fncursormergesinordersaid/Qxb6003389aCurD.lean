import Derived.Test.Qxb6003389aCurC
namespace Go.Proofs.Qxb6003389a
open Go.RowKit

/-- The new row 'B' of 'N' cells holds 'L'. -/
def Own (w : World) (B N : Nat) (L : List Int) : Prop := w.ownsRow B 3 1 (.slice (some ⟨B, 0, none⟩) N N) N (L.map (Value.int .i64))
theorem Own.len {w : World} {B N : Nat} {L : List Int} (h : Own w B N L) : L.length = N := by have := h.1; simpa using this
theorem Own.get {w : World} {B N : Nat} {L : List Int} (h : Own w B N L) (j : Nat) (hj : j < N) : w.cell? ⟨B, j, none⟩ = some (.int .i64 (L[j]?.getD 0)) := by
  have hl := h.len
  unfold Own at h
  rw [h.cellAt j (by omega), List.getElem?_map, List.getElem?_eq_getElem (by omega)]
  rfl
theorem Own.fz {w : World} {B N : Nat} {L : List Int} (h : Own w B N L) (j : Nat) : w.frozen? ⟨B, j, none⟩ = false := World.ownsRow.frozenAt h j
theorem Own.set {w : World} {B N : Nat} {L : List Int} (h : Own w B N L) (j : Nat) (u : Int) : Own (w.setCell ⟨B, j, none⟩ (.int .i64 u)) B N (L.set j u) := by
  have := (World.ownsRow.stored h j (.int .i64 u)).1
  unfold Own
  rw [List.map_set]
  exact this

/-- What the sort hands back. -/
def SortGives (n : Nat) (L : List Int) (w : World) (e : Ending) (w' : World) : Prop := ∃ zs, Gives .i64 n zs w e w' ∧ Mrg.Sorted zs ∧ List.Perm zs L

theorem own_part {w : World} {B N : Nat} {L : List Int} (hl : L.length = N) (h : w.ownsRow B 3 1 (.slice (some ⟨B, 0, none⟩) N N) N (part .i64 L N)) : Own w B N L := by
  unfold Own
  rw [← part_end, hl]
  exact h

theorem ins_step {S R L : List Int} {x : Int} {j : Nat} (hS : Mrg.Sorted S) (hP : List.Perm (S ++ x :: R) L) (hj : j ≤ S.length) (h1 : 0 < j → S[j - 1]?.getD 0 ≤ x) (h2 : j < S.length → x ≤ S[j]?.getD 0) :
    Mrg.Sorted (S.take j ++ x :: S.drop j) ∧ List.Perm ((S.take j ++ x :: S.drop j) ++ R) L ∧ Mrg.hole S R x j = (S.take j ++ x :: S.drop j) ++ R := by
  refine ⟨Mrg.insert_sorted hS hj h1 h2, ?_, by simp [Mrg.hole]⟩
  refine ((Mrg.insert_perm S x j).append_right R).trans ?_
  simpa using hP

set_option maxRecDepth 3000 in
set_option maxHeartbeats 4000000 in
theorem concat_any (a a' : Option Addr) (cap cap' n n' : Nat) (xs ys : List Int) (w : World) (hn : xs.length = n) (hn' : ys.length = n') (hm : n ≤ 1024) (hm' : n' ≤ 1024) (hr : Row .i64 w a xs) (hr' : Row .i64 w a' ys) :
    Calls Try.prog 18 #[.slice a n cap, .slice a' n' cap'] w fun e w' => SortGives (n + n') (xs ++ ys) w e w' := by
  obtain ⟨i0, hi, hz0, hz1, hz2⟩ := info_parts info3
  have HN : Hid (xs.length = n) := hn
  have HN' : Hid (ys.length = n') := hn'
  have HR : Hid (Row .i64 w a xs) := hr
  have HR' : Hid (Row .i64 w a' ys) := hr'
  have e0 : i0.bytes * (n + n') ≤ 281474976710656 := by rw [hz2]; omega
  have e1 : n + n' ≤ maxLen := by unfold maxLen; omega
  have HL : Hid ((xs ++ ys).length = n + n') := by rw [← hn, ← hn', List.length_append]; rfl
  clear hn hn' hr hr' hz2
  go_enter Try.func18, Try.ntmps18
  go_wp2_with (at_make; refine wpList_make_full _ rfl (.tmp 15) (.tmp 15) 30 rfl w.heap.size 3 i0 (.int .i64 0) 1 Try.underlying30 hi hz0 hz1 .i64 .i64 _ _ (n + n') rfl rfl (by omega) (by omega) e0 e1 (Nat.le_refl _) ?_; intro w1 hown hgrow; clear e0 e1)
  have hb1 : Below w.heap.size w w1 := (Below.refl _ _).grown hgrow (Nat.le_refl _) (by intro k hk; cases hk)
  have hown1 : w1.ownsRow w.heap.size 3 1 (.slice (some ⟨w.heap.size, 0, none⟩) (n + n') (n + n')) (n + n') (part .i64 (xs ++ ys) 0) := by
    rw [part_zero, HL.out]
    have := hown
    rw [show (Value.int .i64 0).cells = #[Value.int .i64 0] from rfl, toList_madeCells_one] at this
    simpa using this
  have HO : Hid (w1.ownsRow w.heap.size 3 1 (.slice (some ⟨w.heap.size, 0, none⟩) (n + n') (n + n')) (n + n') (part .i64 (xs ++ ys) 0)) := hown1
  have HB : Hid (Below w.heap.size w w1) := hb1
  clear hown hown1 hgrow hb1
  go_loopw [6] (fun y wr => ∃ k : Nat, k ≤ n ∧ y = .int .i64 k ∧ Hid (wr.ownsRow w.heap.size 3 1 (.slice (some ⟨w.heap.size, 0, none⟩) (n + n') (n + n')) (n + n') (part .i64 (xs ++ ys) k)) ∧ Hid (Below w.heap.size w wr)) (fun y _ => n - (intOf y).toNat)
  case atStart => exact ⟨0, by omega, rfl, HO, HB⟩
  case round =>
    obtain ⟨k, hk, rfl, ho, hb⟩ := hrel
    by_cases hlt : k < n
    · rcases HR.out with hz | ⟨b, off, hx, hc⟩
      · have := HN.out; rw [hz] at this; simp at this; omega
      · cases hx
        have hc0 := hc k (by rw [HN.out]; omega)
        have hbw : b < w.heap.size := World.block_lt_of_cell? w _ hc0
        have hcr : wr.cell? ⟨b, off + k, none⟩ = some (.int .i64 (xs[k]?.getD 0)) := by rw [hb.out.cell (by exact hbw)]; exact hc0
        have hd0 : wr.cell? ⟨w.heap.size, k, none⟩ = some (.int .i64 0) := by rw [ho.out.cellAt k (by omega)]; exact part_get _ _ _ (by rw [HL.out]; omega)
        have hfz : wr.frozen? ⟨w.heap.size, k, none⟩ = false := ho.out.frozenAt k
        have ez : (xs ++ ys)[k]?.getD 0 = xs[k]?.getD 0 := by rw [List.getElem?_append_left (by rw [HN.out]; exact hlt)]
        obtain ⟨z, hz⟩ : ∃ z, z = xs[k]?.getD 0 := ⟨_, rfl⟩
        rw [← hz] at hcr ez
        have hst := ho.out.stored k (.int .i64 z)
        have HS : Hid ((wr.setCell ⟨w.heap.size, k, none⟩ (.int .i64 z)).ownsRow w.heap.size 3 1 (.slice (some ⟨w.heap.size, 0, none⟩) (n + n') (n + n')) (n + n') (part .i64 (xs ++ ys) (k + 1))) := by
          rw [← part_set .i64 (xs ++ ys) k (by rw [HL.out]; omega), ez]; exact hst.1
        have HB' : Hid (Below w.heap.size w (wr.setCell ⟨w.heap.size, k, none⟩ (.int .i64 z))) := hb.out.setCell (Nat.le_refl _) _
        clear hst hz hc0 hc ez
        go_wp2_with fail
        go_roundw
        case rel => exact ⟨k + 1, by omega, by go_num, HS, HB'⟩
        case measure => simp [intOf]; omega
    · have ho2 : Hid (wr.ownsRow w.heap.size 3 1 (.slice (some ⟨w.heap.size, 0, none⟩) (n + n') (n + n')) (n + n') (part .i64 (xs ++ ys) (n + 0))) := by
        have e : k = n + 0 := by omega
        have := ho.out; rw [e] at this; exact this
      have hb2 := hb
      obtain ⟨wo, hwo⟩ : ∃ wo : World, wo = wr := ⟨_, rfl⟩
      rw [← hwo] at ho2 hb2
      clear ho hb
      go_wp2_with fail
      rw [← hwo]
      clear hwo
      go_loopw [7] (fun y wr => ∃ q : Nat, q ≤ n' ∧ y = .int .i64 q ∧ Hid (wr.ownsRow w.heap.size 3 1 (.slice (some ⟨w.heap.size, 0, none⟩) (n + n') (n + n')) (n + n') (part .i64 (xs ++ ys) (n + q))) ∧ Hid (Below w.heap.size w wr)) (fun y _ => n' - (intOf y).toNat)
      case atStart => exact ⟨0, by omega, rfl, ho2, hb2⟩
      case round =>
        clear ho2 hb2
        obtain ⟨q, hq, rfl, ho, hb⟩ := hrel
        by_cases hlq : q < n'
        · rcases HR'.out with hz | ⟨b, off, hx, hc⟩
          · have := HN'.out; rw [hz] at this; simp at this; omega
          · cases hx
            have hc0 := hc q (by rw [HN'.out]; omega)
            have hbw : b < w.heap.size := World.block_lt_of_cell? w _ hc0
            have hcr : wr.cell? ⟨b, off + q, none⟩ = some (.int .i64 (ys[q]?.getD 0)) := by rw [hb.out.cell (by exact hbw)]; exact hc0
            have hd0 : wr.cell? ⟨w.heap.size, n + q, none⟩ = some (.int .i64 0) := by rw [ho.out.cellAt (n + q) (by omega)]; exact part_get _ _ _ (by rw [HL.out]; omega)
            have hfz : wr.frozen? ⟨w.heap.size, n + q, none⟩ = false := ho.out.frozenAt (n + q)
            have ez : (xs ++ ys)[n + q]?.getD 0 = ys[q]?.getD 0 := by rw [List.getElem?_append_right (by rw [HN.out]; omega), HN.out, Nat.add_sub_cancel_left]
            obtain ⟨z, hz⟩ : ∃ z, z = ys[q]?.getD 0 := ⟨_, rfl⟩
            rw [← hz] at hcr ez
            have hst := ho.out.stored (n + q) (.int .i64 z)
            have HS : Hid ((wr.setCell ⟨w.heap.size, n + q, none⟩ (.int .i64 z)).ownsRow w.heap.size 3 1 (.slice (some ⟨w.heap.size, 0, none⟩) (n + n') (n + n')) (n + n') (part .i64 (xs ++ ys) (n + (q + 1)))) := by
              have := part_set .i64 (xs ++ ys) (n + q) (by rw [HL.out]; omega)
              rw [← Nat.add_assoc, ← this, ez]; exact hst.1
            have HB' : Hid (Below w.heap.size w (wr.setCell ⟨w.heap.size, n + q, none⟩ (.int .i64 z))) := hb.out.setCell (Nat.le_refl _) _
            clear hst hz hc0 hc ez
            go_wp2_with fail
            go_roundw
            case rel => exact ⟨q + 1, by omega, by go_num, HS, HB'⟩
            case measure => simp [intOf]; omega
        · have ho3 : Hid (Own wr w.heap.size (n + n') (xs ++ ys)) := by
            have e : q = n' := by omega
            have := ho.out; rw [e] at this; exact own_part HL.out this
          have hb3 := hb
          obtain ⟨wo, hwo⟩ : ∃ wo : World, wo = wr := ⟨_, rfl⟩
          rw [← hwo] at ho3 hb3
          clear ho hb
          go_wp2_with fail
          rw [← hwo]
          clear hwo
          go_loopw [8, 9, 10] (fun y _ _ wr => ∃ (i : Nat) (S R : List Int), 1 ≤ i ∧ i ≤ n + n' + 1 ∧ y = .int .i64 i ∧ Hid (S.length = min i (n + n')) ∧ Hid (Own wr w.heap.size (n + n') (S ++ R)) ∧ Hid (Below w.heap.size w wr) ∧ Hid (Mrg.Sorted S) ∧ Hid (List.Perm (S ++ R) (xs ++ ys))) (fun y _ _ _ => n + n' + 1 - (intOf y).toNat)
          case atStart =>
            refine ⟨1, (xs ++ ys).take 1, (xs ++ ys).drop 1, by omega, by omega, rfl, ?_, ?_, hb3, ?_, ?_⟩
            · show _ = _; rw [List.length_take, HL.out]
            · rw [List.take_append_drop]; exact ho3
            · match xs ++ ys with
              | [] => exact List.Pairwise.nil
              | [_] => exact List.pairwise_cons.2 ⟨fun z hz => by simp at hz, List.Pairwise.nil⟩
              | _ :: _ :: _ => exact List.pairwise_cons.2 ⟨fun z hz => by simp at hz, List.Pairwise.nil⟩
            · rw [List.take_append_drop]; exact List.Perm.refl _
          case round =>
            clear ho3 hb3
            obtain ⟨i, S, R, hi1, hi2, rfl, hl, ho, hb, hS, hP⟩ := hrel
            by_cases hlt3 : i < n + n'
            · have hSl : S.length = i := by have := hl.out; omega
              have hRl : S.length + R.length = n + n' := by have := ho.out.len; rw [List.length_append] at this; exact this
              obtain ⟨x, R', rfl⟩ : ∃ x R', R = x :: R' := by
                match R, hRl with
                | [], h => simp at h; omega
                | x :: R', _ => exact ⟨x, R', rfl⟩
              have HSl : Hid (S.length = i) := hSl
              have hcx : wr.cell? ⟨w.heap.size, i, none⟩ = some (.int .i64 x) := by
                rw [ho.out.get i hlt3, List.getElem?_append_right (by omega), hSl, Nat.sub_self]; rfl
              have ho2 : Hid (Own wr w.heap.size (n + n') (Mrg.hole S R' x i)) := by
                have := ho.out; rw [← Mrg.hole_start, hSl] at this; exact this
              have hb2 := hb
              obtain ⟨wo, hwo⟩ : ∃ wo : World, wo = wr := ⟨_, rfl⟩
              rw [← hwo] at ho2 hb2
              clear ho hb hSl hRl
              go_wp2_with fail
              clear hcx
              rw [← hwo]
              clear hwo
              go_loopw [10] (fun y wr => ∃ (j : Nat) (h : Int), j ≤ i ∧ y = .int .i64 j ∧ Hid (Own wr w.heap.size (n + n') (Mrg.hole S R' h j)) ∧ Hid (Below w.heap.size w wr) ∧ Hid (j < S.length → x ≤ S[j]?.getD 0)) (fun y _ => (intOf y).toNat)
              case atStart => exact ⟨i, x, by omega, rfl, ho2, hb2, fun hh => by have := HSl.out; omega⟩
              case round =>
                clear ho2 hb2
                obtain ⟨j, h, hj, rfl, ho, hb, hx⟩ := hrel
                have hcj : wr.cell? ⟨w.heap.size, j, none⟩ = some (.int .i64 h) := by
                  rw [ho.out.get j (by omega), Mrg.hole_at _ _ _ _ (by rw [HSl.out]; exact hj)]; rfl
                have hfj := ho.out.fz j
                by_cases h0 : 0 < j
                · obtain ⟨j', rfl⟩ : ∃ j', j = j' + 1 := ⟨j - 1, by omega⟩
                  have hcp : wr.cell? ⟨w.heap.size, j', none⟩ = some (.int .i64 (S[j']?.getD 0)) := by
                    rw [ho.out.get j' (by omega), Mrg.hole_get _ _ _ _ _ (by omega) (by rw [HSl.out]; exact hj)]
                  obtain ⟨u, hu⟩ : ∃ u, u = S[j']?.getD 0 := ⟨_, rfl⟩
                  rw [← hu] at hcp
                  have HU : Hid (u = S[j']?.getD 0) := hu
                  clear hu
                  by_cases hux : x < u
                  · have HO : Hid (Own (wr.setCell ⟨w.heap.size, j' + 1, none⟩ (.int .i64 u)) w.heap.size (n + n') (Mrg.hole S R' u j')) := by
                      have := ho.out.set (j' + 1) u
                      rw [Mrg.hole_set _ _ _ _ _ (by rw [HSl.out]; exact hj), HU.out, Mrg.hole_shift _ _ _ (by rw [HSl.out]; exact hj), ← HU.out] at this
                      exact this
                    have HB : Hid (Below w.heap.size w (wr.setCell ⟨w.heap.size, j' + 1, none⟩ (.int .i64 u))) := hb.out.setCell (Nat.le_refl _) _
                    go_wp2_with fail
                    go_roundw
                    case rel => exact ⟨j', u, by omega, by go_num, HO, HB, fun _ => by rw [← HU.out]; omega⟩
                    case measure => simp [intOf]
                  · have HI : Hid _ := ins_step hS.out hP.out (j := j' + 1) (by rw [HSl.out]; exact hj) (fun _ => by rw [Nat.add_sub_cancel, ← HU.out]; omega) hx.out
                    have HO : Hid (Own (wr.setCell ⟨w.heap.size, j' + 1, none⟩ (.int .i64 x)) w.heap.size (n + n') ((S.take (j' + 1) ++ x :: S.drop (j' + 1)) ++ R')) := by
                      have := ho.out.set (j' + 1) x
                      rw [Mrg.hole_set _ _ _ _ _ (by rw [HSl.out]; exact hj), HI.out.2.2] at this
                      exact this
                    have HB : Hid (Below w.heap.size w (wr.setCell ⟨w.heap.size, j' + 1, none⟩ (.int .i64 x))) := hb.out.setCell (Nat.le_refl _) _
                    go_wp2_with fail
                    go_roundw
                    case rel => exact ⟨i + 1, S.take (j' + 1) ++ x :: S.drop (j' + 1), R', by omega, by omega, by go_num, by show _ = _; have := HSl.out; simp only [List.length_append, List.length_take, List.length_cons, List.length_drop]; omega, HO, HB, HI.out.1, HI.out.2.1⟩
                    case measure => simp [intOf]; omega
                · obtain rfl : j = 0 := by omega
                  have HI : Hid _ := ins_step hS.out hP.out (j := 0) (by omega) (fun hh => by omega) hx.out
                  have HO : Hid (Own (wr.setCell ⟨w.heap.size, 0, none⟩ (.int .i64 x)) w.heap.size (n + n') ((S.take 0 ++ x :: S.drop 0) ++ R')) := by
                    have := ho.out.set 0 x
                    rw [Mrg.hole_set _ _ _ _ _ (by omega), HI.out.2.2] at this
                    exact this
                  have HB : Hid (Below w.heap.size w (wr.setCell ⟨w.heap.size, 0, none⟩ (.int .i64 x))) := hb.out.setCell (Nat.le_refl _) _
                  go_wp2_with fail
                  go_roundw
                  case rel => exact ⟨i + 1, S.take 0 ++ x :: S.drop 0, R', by omega, by omega, by go_num, by show _ = _; have := HSl.out; simp only [List.length_append, List.length_take, List.length_cons, List.length_drop]; omega, HO, HB, HI.out.1, HI.out.2.1⟩
                  case measure => simp [intOf]; omega
            · go_wp2_with fail
              go_ret
              refine ⟨S ++ R, ⟨_, _, rfl, Row.ofOwn ho.out, (fun h => by cases h), hb⟩, ?_, hP⟩
              have h1 := hl.out
              have h2 := ho.out.len
              rw [List.length_append] at h2
              have h3 : R = [] := List.length_eq_zero_iff.1 (by omega)
              rw [h3, List.append_nil]
              exact hS
end Go.Proofs.Qxb6003389a
