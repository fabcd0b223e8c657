import Derived.Test.Qxb6003389aDoorFmtC
import Derived.Deep.RegionLaw
import Derived.BigRegion
namespace Go.Proofs.Qxb6003389aDoor
open Go.RowKit

/-- append onto a row that the call owns, as one step of a region that draws. -/
theorem step_append_own {P : Program} {ops : Array Oper} {o : Oper} {a : Act} {w : World} {K : Act → World → Prop} {Q : Exit → Act → World → Prop} {E : Prop}
    (hgd : o.guard = none) (s x : Operand) (t : TypeId)
    (ho : o.op = .call { callee := .builtin .append, args := #[s, x], argTypes := #[t, t] })
    (base : Nat) (e : TypeId) (i : TypeInfo) (z : Value) (size bytes : Nat) (ht : P.underlying t = some (.slice e)) (hi : P.info? e = some i) (hz : i.zero = some z)
    (hsize : i.size = size) (hby : i.bytes = bytes) (hzs : z.cells.size = size) (hsz : 0 < size)
    (v : Value) (n : Nat) (xs : List Value) (hs : a.eval s = v) (hown : w.ownsRow base e size v n xs)
    (ad : Addr) (m c : Nat) (news : List Value) (hx : a.eval x = .slice (some ad) m c) (hl : news.length = m * size) (hnews : ∀ j u, news[j]? = some u → w.cell? (ad.add j) = some u) (h1 : ∀ u ∈ news, u.oneCell' = true)
    (h63 : n + m ≤ maxLen) (hbytes : (n + m) * bytes ≤ 140737488355328) (hbase : base ≤ w.heap.size)
    (h : ∀ v' w', w'.ownsRow base e size v' (n + m) (xs ++ news) → w.grownBy w' v.ownBlock → K (a.put o.dst v') w') :
    if Region.wanted o (yielded ops a.tmps) = true then Oper.wp P o a w K Q else E := by
  have hw : Region.wanted o (yielded ops a.tmps) = true := by simp [Region.wanted, hgd]
  rw [if_pos hw]
  exact wp_append_own w s x t ho base e i z size bytes ht hi hz hsize hby hzs hsz v n xs hs hown ad m c news hx hl hnews h1 h63 hbytes hbase fun v' w' h2 h3 _ => h v' w' h2 h3

theorem own_mono {w : World} {B B' e size n : Nat} {v : Value} {xs : List Value} (h : w.ownsRow B e size v n xs) (hB : B' ≤ B) : w.ownsRow B' e size v n xs := by
  refine ⟨h.1, ?_⟩
  rcases h.2 with hn | ⟨g, cap, cur, rfl, hg, rest⟩
  · exact .inl hn
  · exact .inr ⟨g, cap, cur, rfl, Nat.le_trans hB hg, rest⟩

/-- A row of int32s that reads as the numbers 'ns'. -/
def Nums (w : World) (a : Option Addr) (ns : List Nat) : Prop := ns = [] ∨ ∃ b off, a = some ⟨b, off, none⟩ ∧ ∀ i (h : i < ns.length), w.cell? ⟨b, off + i, none⟩ = some (.int .i32 (ns[i] : Int))
theorem Nums.below {w w' : World} {a : Option Addr} {ns : List Nat} (h : Nums w a ns) (hb : Below w.heap.size w w') : Nums w' a ns := by
  rcases h with h | ⟨b, off, rfl, hc⟩
  · exact .inl h
  · refine .inr ⟨b, off, rfl, fun i hi => ?_⟩
    rw [hb.cell (by exact World.block_lt_of_cell? w _ (hc i hi))]
    exact hc i hi

theorem below_drewN {B : Nat} {a w : World} (h : Below B a w) (k : Nat) : Below B a (w.drewN k) := ⟨h.os, h.tape, h.output, h.size, h.block⟩

/-- Even, each at most MaxRune. -/
def Ok (ns : List Nat) : Prop := ns.length % 2 = 0 ∧ ∀ x ∈ ns, x ≤ 1114111

/-- What appendTo hands back. -/
def Spelt (B : Nat) (t : List UInt8) (ns : List Nat) (w : World) (e : Ending) (w' : World) : Prop :=
  ∃ v', e = .returned v' ∧ ∃ ts, Hx.Spell ns ts ∧ Own5 B w' v' (t ++ [91] ++ ts ++ [93]) ∧ Below B w w'

set_option maxHeartbeats 4000000 in
set_option maxRecDepth 3000 in
theorem appendTo_any (a ab : Option Addr) (cap : Nat) (ns : List Nat) (t : List UInt8) (w : World) (hne : ns ≠ []) (hn : ns.length ≤ 65536) (ht : t.length ≤ 65536) (hok : Hid (Ok ns)) (hr : Hid (Nums w a ns)) (h5 : 5 < w.heap.size) (hd : Hid (Deb w))
    (ho : Hid (∃ B, Own5 B w (.slice ab t.length t.length) t)) :
    Calls Tryd.prog 30 #[.slice a ns.length cap, .slice ab t.length t.length] w fun e w' => Spelt w.heap.size t ns w e w' := by
  obtain ⟨i0, hi, hz0, hz1, hz2⟩ := info_parts info5
  have HZ : Hid (i0.bytes = 1) := hz2
  have h0 : 0 < ns.length := List.length_pos_iff.2 hne
  obtain ⟨n, hnn⟩ : ∃ n, n = ns.length := ⟨_, rfl⟩
  have HN : Hid (n = ns.length) := hnn
  rw [← hnn] at h0 hn ⊢
  clear hnn hz2
  have e1 : ab = none → t.length = 0 ∧ t.length = 0 := by
    intro hab
    obtain ⟨B, h⟩ := ho.out
    rcases h.2 with ⟨hv, h1⟩ | ⟨g, c, cur, hv, _⟩
    · exact ⟨h1, h1⟩
    · rw [hab] at hv; cases hv
  have e2 : (Lib.byteCells t).length = t.length * 1 := by rw [Lib.byteCells_length]; omega
  have e3 : ∀ b, ab = some b → ∀ j u, (Lib.byteCells t)[j]? = some u → (w.alloc (.cells #[.int .u8 91] 5)).cell? (b.add j) = some u := by
    intro b hb j u hj
    obtain ⟨B, h⟩ := ho.out
    rcases h.2 with ⟨hv, h1⟩ | ⟨g, c, cur, hv, _, hg, _⟩
    · rw [hb] at hv; cases hv
    · rw [hb] at hv
      cases hv
      exact (World.ownsRow.alloc h _).cells (g := g) (by rw [hb]; rfl) j u hj
  have e4 : t.length < t.length + 1 := by omega
  have e5 : t.length + 1 ≤ maxLen := by unfold maxLen; omega
  have e6 : (t.length + 1) * 1 ≤ 140737488355328 := by omega
  have hn0 : ((n : Int) == 0) = false := beq_eq_false_iff_ne.2 (by omega)
  go_enter Tryd.func30, Tryd.ntmps30
  go_wp2_with (at_builtin; refine wpList_append_grows _ rfl (.tmp 11) (.tmp 12) 23 rfl 5 i0 (.int .u8 0) 1 1 Tryd.underlying23 hi hz0 hz1 HZ.out rfl (by decide) ab t.length t.length (Lib.byteCells t) rfl e1 e2 e3 ⟨w.heap.size, 0, none⟩ 1 1 [.int .u8 91] rfl rfl (one_cell_new _ _ _) (one_one _ _) e4 e5 e6 ?_; intro v1 w1 hown hgrow; have HO1 : Hid (Own5 w.heap.size w1 v1 (t ++ [91])) := own5_mk (own_mono hown (by simp)) rfl; have HB1 : Hid (Below w.heap.size w w1) := ((Below.refl _ _).alloc (Nat.le_refl _) _).grown hgrow (by simp) (fun k hk => by cases hk); clear e1 e2 e3 e4 e5 e6 hown hgrow)
  go_loopw [1, 5] (fun y z wr => ∃ (k : Nat) (ts : List UInt8), 2 * k ≤ n ∧ z = .int .i64 ((2 * k : Nat) : Int) ∧ Hid (Hx.Spell (ns.take (2 * k)) ts) ∧ Hid (Own5 w.heap.size wr y (t ++ [91] ++ ts)) ∧ Hid (Below w.heap.size w wr)) (fun _ z _ => n - (intOf z).toNat)
  case atStart => exact ⟨0, [], by omega, rfl, Hx.Spell.nil, by simpa using HO1, HB1⟩
  case round =>
    obtain ⟨k, ts, hk, rfl, hs, hO, hb⟩ := hrel
    have hev := hok.out.1
    have hlen := hs.out.len
    rw [← HN.out] at hev
    have hts : ts.length ≤ 700000 := by simp only [List.length_take] at hlen; omega
    clear hlen
    by_cases hlt : 2 * k < n
    · rcases hr.out with hz | ⟨b, off, hx, hc⟩
      · have := HN.out; rw [hz] at this; simp at this; omega
      subst hx
      have i1 : 2 * k < ns.length := by rw [← HN.out]; exact hlt
      have i2 : 2 * k + 1 < ns.length := by rw [← HN.out]; omega
      have hA := hc (2 * k) i1
      have hB := hc (2 * k + 1) i2
      have hbw : b < w.heap.size := World.block_lt_of_cell? w _ hA
      have HC : Hid (∀ wx, Below w.heap.size w wx → wx.cell? ⟨b, off + 2 * k, none⟩ = some (.int .i32 (ns[2 * k] : Int)) ∧ wx.cell? ⟨b, off + (2 * k + 1), none⟩ = some (.int .i32 (ns[2 * k + 1] : Int))) := by
        intro wx hx
        exact ⟨by rw [hx.cell (by exact hbw)]; exact hA, by rw [hx.cell (by exact hbw)]; exact hB⟩
      have HT : Hid (ns.take (2 * (k + 1)) = ns.take (2 * k) ++ [ns[2 * k], ns[2 * k + 1]]) := by
        show _ = _
        rw [show 2 * (k + 1) = 2 * k + 1 + 1 from by omega, List.take_succ_eq_append_getElem i2, List.take_succ_eq_append_getElem i1, List.append_assoc]
        rfl
      have hlo := hok.out.2 _ (List.getElem_mem i1)
      have hhi := hok.out.2 _ (List.getElem_mem i2)
      generalize ns[2 * k] = lo at HC HT hlo hA
      generalize ns[2 * k + 1] = hi' at HC HT hhi hB
      clear hA hB hc
      have hc1 := (HC.out _ hb.out).1
      have HW : Hid (w.heap.size ≤ wr.heap.size) := hb.out.size
      have HD : Hid (Deb wr) := hd.out.below hb.out h5
      go_wp2_with fail
      refine (appendRune_any lo hlo w.heap.size (t ++ [91] ++ ts) _ wr h5 HW.out (by simp; omega) HD hO).mono ?_
      rintro e w2 ⟨v2, rfl, l, hl, ho2, hb2⟩
      have HL : Hid (Hx.Num l lo) := hl
      have HO2 : Hid (Own5 w.heap.size w2 v2 (t ++ [91] ++ ts ++ Hx.sp l)) := ho2
      have HB2 : Hid (Below w.heap.size w w2) := hb.out.trans hb2
      have hc21 := (HC.out _ HB2.out).1
      have hc22 := (HC.out _ HB2.out).2
      clear hl ho2 hb2 hc1
      by_cases heq : lo = hi'
      · subst heq
        go_wp2_with fail
        go_quiet (fail)
        go_wp2_with fail
        have HS : Hid (Hx.Spell (ns.take (2 * (k + 1))) (ts ++ Hx.sp l)) := by rw [HT.out]; exact hs.out.append (.one' hlo HL.out)
        have HO3 : Hid (Own5 w.heap.size (w2.drewN nq) v2 (t ++ [91] ++ (ts ++ Hx.sp l))) := by rw [← List.append_assoc]; exact HO2.out
        exact ⟨⟨k + 1, ts ++ Hx.sp l, by omega, by go_num, HS, HO3, below_drewN HB2.out nq⟩, by simp [intOf]; omega⟩
      · have hneq : ((hi' : Int) == (lo : Int)) = false := beq_eq_false_iff_ne.2 (by omega)
        go_wp2_with fail
        go_quiet (fail)
        go_wp2_with fail
        have hl6 := HL.out.six
        have hq22 : ((w2.drewN (nq + 1)).alloc (.cells #[.int .u8 45] 5)).cell? ⟨b, off + (2 * k + 1), none⟩ = some (.int .i32 (hi' : Int)) :=
          (HC.out _ ((below_drewN HB2.out (nq + 1)).alloc HB2.out.size _)).2
        have HOq : Hid (Own5 w.heap.size (w2.drewN (nq + 1)) v2 (t ++ [91] ++ ts ++ Hx.sp l)) := HO2
        have HBq : Hid (Below w.heap.size w (w2.drewN (nq + 1))) := below_drewN HB2.out (nq + 1)
        have HWq : Hid (w.heap.size ≤ (w2.drewN (nq + 1)).heap.size) := HBq.out.size
        have e3 : (t ++ [91] ++ ts ++ Hx.sp l).length + 1 ≤ maxLen := by unfold maxLen; simp [Hx.sp]; omega
        have e4 : ((t ++ [91] ++ ts ++ Hx.sp l).length + 1) * 1 ≤ 140737488355328 := by simp [Hx.sp]; omega
        have e5 : w.heap.size ≤ ((w2.drewN (nq + 1)).alloc (.cells #[.int .u8 45] 5)).heap.size := by have := HWq.out; simp at this ⊢; omega
        have e6 : (t ++ [91] ++ ts ++ Hx.sp l ++ [45]).length ≤ 1900000 := by simp [Hx.sp]; omega
        have hI1 : IntKind.i64.wrap (2 * (k : Int) + 1) = 2 * (k : Int) + 1 := by rw [IntKind.wrap_i64]; omega
        have hI2 : 0 ≤ 2 * (k : Int) + 1 := by omega
        have hI3 : 2 * (k : Int) + 1 < (n : Int) := by omega
        have hI4 : (2 * (k : Int) + 1).toNat = 2 * k + 1 := by omega
        go_region_law (first
          | (refine step_append_own rfl (.tmp 36) (.tmp 37) 23 rfl w.heap.size 5 i0 (.int .u8 0) 1 1 Tryd.underlying23 hi hz0 hz1 HZ.out rfl (by decide) v2 (t ++ [91] ++ ts ++ Hx.sp l).length (Lib.byteCells (t ++ [91] ++ ts ++ Hx.sp l)) rfl (World.ownsRow.alloc HOq.out _) ⟨(w2.drewN (nq + 1)).heap.size, 0, none⟩ 1 1 [.int .u8 45] rfl rfl (one_cell_new _ _ _) (one_one _ _) e3 e4 e5 ?_
             intro v3 w3 hown hgrow
             have HO3 : Hid (Own5 w.heap.size w3 v3 (t ++ [91] ++ ts ++ Hx.sp l ++ [45])) := own5_mk hown rfl
             have HB3 : Hid (Below w.heap.size w w3) := (HBq.out.alloc HWq.out _).grown hgrow e5 (fun k hk => (World.ownsRow.lt HOq.out k hk).1)
             have hc32 := (HC.out _ HB3.out).2
             clear hown hgrow)
          | (go_simp
             refine (appendRune_any hi' hhi w.heap.size (t ++ [91] ++ ts ++ Hx.sp l ++ [45]) v3 w3 h5 HB3.out.size e6 (hd.out.below HB3.out h5) HO3).mono ?_
             rintro e w4 ⟨v4, rfl, m, hm, ho4, hb4⟩
             have HM : Hid (Hx.Num m hi') := hm
             have HO4 : Hid (Own5 w.heap.size w4 v4 (t ++ [91] ++ ts ++ Hx.sp l ++ [45] ++ Hx.sp m)) := ho4
             have HB4 : Hid (Below w.heap.size w w4) := HB3.out.trans hb4
             clear hm ho4 hb4))
        all_goals
          go_wp2_with fail
          have HS : Hid (Hx.Spell (ns.take (2 * (k + 1))) (ts ++ (Hx.sp l ++ [45] ++ Hx.sp m))) := by rw [HT.out]; exact hs.out.append (.two' heq hlo hhi HL.out HM.out)
          have HO5 : Hid (Own5 w.heap.size w4 v4 (t ++ [91] ++ (ts ++ (Hx.sp l ++ [45] ++ Hx.sp m)))) := by have := HO4.out; simp only [List.append_assoc] at this ⊢; exact this
          exact ⟨⟨k + 1, ts ++ (Hx.sp l ++ [45] ++ Hx.sp m), by omega, by go_num, HS, HO5, HB4⟩, by simp [intOf]; omega⟩
    · have hkn : 2 * k = n := by omega
      have e3 : (t ++ [91] ++ ts).length + 1 ≤ maxLen := by unfold maxLen; simp; omega
      have e4 : ((t ++ [91] ++ ts).length + 1) * 1 ≤ 140737488355328 := by simp; omega
      have e5 : w.heap.size ≤ (wr.alloc (.cells #[.int .u8 93] 5)).heap.size := by have := hb.out.size; simp; omega
      have HS : Hid (Hx.Spell ns ts) := by have := hs.out; rw [List.take_of_length_le (by rw [← HN.out]; omega)] at this; exact this
      go_wp2_with (at_builtin; refine wpList_append_own _ rfl (.tmp 45) (.tmp 46) 23 rfl w.heap.size 5 i0 (.int .u8 0) 1 1 Tryd.underlying23 hi hz0 hz1 HZ.out rfl (by decide) u1 (t ++ [91] ++ ts).length (Lib.byteCells (t ++ [91] ++ ts)) rfl (World.ownsRow.alloc hO.out _) ⟨wr.heap.size, 0, none⟩ 1 1 [.int .u8 93] rfl rfl (one_cell_new _ _ _) (one_one _ _) e3 e4 e5 ?_; intro v3 w3 hown hgrow _; have HO3 : Hid (Own5 w.heap.size w3 v3 (t ++ [91] ++ ts ++ [93])) := own5_mk hown rfl; have HB3 : Hid (Below w.heap.size w w3) := (hb.out.alloc hb.out.size _).grown hgrow e5 (fun k hk => (World.ownsRow.lt hO.out k hk).1); clear e3 e4 hown hgrow)
      go_ret
      exact ⟨v3, rfl, ts, HS.out, HO3.out, HB3.out⟩
end Go.Proofs.Qxb6003389aDoor
