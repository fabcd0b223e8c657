import Derived.Test.Qxb6003389aCurD
namespace Go.Proofs.Qxb6003389a
open Go.RowKit

theorem one_cell_new (w : World) (x : Value) (e : TypeId) : ∀ j u, [x][j]? = some u → (w.alloc (.cells #[x] e)).cell? ((⟨w.heap.size, 0, none⟩ : Addr).add j) = some u := by
  intro j u hj
  match j, hj with
  | 0, hj => simp at hj; subst hj; simp [Addr.add]
theorem one_one (k : IntKind) (x : Int) : ∀ u ∈ [Value.int k x], u.oneCell' = true := by
  intro u hu
  simp at hu
  subst hu; rfl

theorem own_cast1 {w : World} {base : Nat} {e : TypeId} {v : Value} {acc : List Int} {x : Int} (h : w.ownsRow base e 1 v (acc.length + 1) (acc.map (Value.int .i64) ++ [.int .i64 x])) :
    w.ownsRow base e 1 v (acc ++ [x]).length ((acc ++ [x]).map (Value.int .i64)) := by
  simpa using h

theorem Cur.grown {w3 w w' : World} {p : Nat} {s e : List Int} {row : Option Nat} (h : Cur w3 w p s e) (hg : w.grownBy w' row) (hne : some p ≠ row) : Cur w3 w' p s e := by
  obtain ⟨a, cap, a', cap', hh, r⟩ := h
  refine ⟨a, cap, a', cap', ?_, r⟩
  have hlt : p < w.heap.size := by
    by_cases hx : p < w.heap.size
    · exact hx
    · rw [Array.getElem?_eq_none (by omega)] at hh; cases hh
  rw [hg.block p hlt hne]
  exact hh

theorem row_of_own {k : IntKind} {w : World} {base : Nat} {e : TypeId} {a : Option Addr} {n cap : Nat} {zs : List Int} (h : w.ownsRow base e 1 (.slice a n cap) zs.length (zs.map (Value.int k))) : Row k w a zs := by
  obtain ⟨a', cap', hv, hr, -⟩ := own_gives h
  cases hv
  exact hr

/-- The cursor moves: what else there is stays. -/
theorem moved {w3 w w1 : World} {base p : Nat} {v : Value} {acc : List Int} (ho : w.ownsRow base 3 1 v acc.length (acc.map (Value.int .i64))) (hb : Below w3.heap.size w3 w) (hp : w3.heap.size ≤ p) (hpb : p < base) (hsz : base ≤ w.heap.size) (hg : w.grownBy w1 (some p)) :
    w1.ownsRow base 3 1 v acc.length (acc.map (Value.int .i64)) ∧ Below w3.heap.size w3 w1 ∧ base ≤ w1.heap.size := by
  refine ⟨ho.kept hg ?_, hb.grown hg (by omega) (fun k hk => by cases hk; exact hp), Nat.le_trans hsz hg.size⟩
  refine .inr (fun hh => ?_)
  have := (ho.lt _ hh).1
  omega

/-- One round: 'next', then the append. -/
theorem round_step {w3 wr w1 w2 : World} {base p : Nat} {v v' : Value} {s' e' acc : List Int} {u : Int} (ho : wr.ownsRow base 3 1 v acc.length (acc.map (Value.int .i64))) (hb : Below w3.heap.size w3 wr) (hp : w3.heap.size ≤ p) (hpb : p < base) (hsz : base ≤ wr.heap.size)
    (hc : Cur w3 w1 p s' e') (hg : wr.grownBy w1 (some p)) (h2 : w2.ownsRow base 3 1 v' (acc.length + 1) (acc.map (Value.int .i64) ++ [.int .i64 u])) (hg2 : (w1.alloc (.cells #[.int .i64 u] 3)).grownBy w2 v.ownBlock) :
    w2.ownsRow base 3 1 v' (acc ++ [u]).length ((acc ++ [u]).map (Value.int .i64)) ∧ Below w3.heap.size w3 w2 ∧ Cur w3 w2 p s' e' ∧ base ≤ w2.heap.size := by
  have hs1 : base ≤ w1.heap.size := Nat.le_trans hsz hg.size
  have hs2 : w3.heap.size ≤ w1.heap.size := by omega
  have hb1 : Below w3.heap.size w3 w1 := hb.grown hg (by omega) (fun k hk => by cases hk; exact hp)
  have ho1 : ∀ k, v.ownBlock = some k → base ≤ k := fun k hk => (ho.lt k hk).1
  have hsa : w1.heap.size ≤ (w1.alloc (.cells #[.int .i64 u] 3)).heap.size := by simp
  refine ⟨own_cast1 h2, (hb1.alloc hs2 _).grown hg2 (by omega) (fun k hk => by have := ho1 k hk; omega), (hc.grown (World.grownBy_alloc w1 _ none) (by simp)).grown hg2 (fun hh => ?_), Nat.le_trans (Nat.le_trans hs1 hsa) hg2.size⟩
  have := ho1 p hh.symm
  omega

set_option maxRecDepth 3000 in
set_option maxHeartbeats 4000000 in
theorem lawM_main (a a' : Option Addr) (cap cap' n n' : Nat) (xs ys : List Int) (w : World) (hn : xs.length = n) (hn' : ys.length = n') (hm : n ≤ 1024) (hm' : n' ≤ 1024) (hr : Row .i64 w a xs) (hr' : Row .i64 w a' ys) (hnil : a = none → n = 0) (hnil' : a' = none → n' = 0)
    (hs : Mrg.nondec xs = true) (hs' : Mrg.nondec ys = true) :
    Calls Try.prog 5 #[.slice a n cap, .slice a' n' cap'] w fun e w' => e = .returned (.bool true) ∧ Below w.heap.size w w' := by
  obtain ⟨i0, hi, hz0, hz1, hz2⟩ := info_parts info3
  have HZ : Hid (i0.bytes = 8) := hz2
  have HN : Hid (xs.length = n) := hn
  have HN' : Hid (ys.length = n') := hn'
  have HR : Hid (Row .i64 w a xs) := hr
  have HR' : Hid (Row .i64 w a' ys) := hr'
  have HL : Hid (a = none → n = 0) := hnil
  have HL' : Hid (a' = none → n' = 0) := hnil'
  have HS : Hid (Mrg.nondec xs = true) := hs
  have HS' : Hid (Mrg.nondec ys = true) := hs'
  clear hn hn' hr hr' hnil hnil' hs hs'
  go_enter Try.func5, Try.ntmps5
  go_wp2_with fail
  refine (bytesM_yes _ _ _ _ _ _ _ (by omega) (by omega) (by omega)).mono ?_
  rintro e w' ⟨rfl, rfl⟩
  go_wp2_with fail
  refine (nondec_any _ _ _ xs _ HN.out hm HR.out).mono ?_
  rintro e wq ⟨m1, rfl, rfl⟩
  rw [HS.out]
  go_wp2_with fail
  refine (nondec_any _ _ _ ys _ HN'.out hm' (HR'.out.drewN m1)).mono ?_
  rintro e wq ⟨m2, rfl, rfl⟩
  rw [HS'.out]
  go_wp2_with fail
  refine (clone64_any _ _ _ xs _ HN.out (by omega) (by exact HR.out) HL.out).mono ?_
  rintro e wa ⟨a1, cap1, rfl, r1, hk1, hb1⟩
  have HRa : Hid (Row .i64 wa a1 xs) := r1
  have HBa : Hid (Below w'.heap.size w' wa) := (below_drewN (Below.refl _ _) _).trans hb1
  have HRa' : Hid (Row .i64 wa a' ys) := HR'.out.below HBa.out
  clear r1 hb1 HR HR'
  go_wp2_with fail
  refine (clone64_any _ _ _ ys _ HN'.out (by omega) HRa'.out HL'.out).mono ?_
  rintro e wb ⟨a2, cap2, rfl, r2, hk2, hb2⟩
  have HRb' : Hid (Row .i64 wb a2 ys) := r2
  have HRb : Hid (Row .i64 wb a1 xs) := HRa.out.below hb2
  have HBb : Hid (Below w'.heap.size w' wb) := HBa.out.trans (hb2.mono HBa.out.size)
  clear r2 hb2 HRa HRa' HBa
  go_wp2_with fail
  refine (concat_any _ _ _ _ _ _ xs ys _ HN.out HN'.out hm hm' HRb.out HRb'.out).mono ?_
  rintro e wc ⟨zs, ⟨a3, cap3, rfl, r3, -, hb3⟩, hsort, hperm⟩
  have HZS : Hid (Mrg.mrg xs ys = zs) := Mrg.sorted_unique (Mrg.mrg_sorted _ _ (Mrg.nondec_sorted _ HS.out) (Mrg.nondec_sorted _ HS'.out)) hsort ((Mrg.mrg_perm xs ys).trans hperm.symm)
  have HZL : Hid (zs.length = n + n') := by rw [hperm.length_eq, List.length_append, HN.out, HN'.out]; rfl
  have HW : Hid (Row .i64 wc a3 zs) := r3
  have HRc : Hid (Row .i64 wc a1 xs) := HRb.out.below hb3
  have HRc' : Hid (Row .i64 wc a2 ys) := HRb'.out.below hb3
  have HBc : Hid (Below w'.heap.size w' wc) := HBb.out.trans (hb3.mono HBb.out.size)
  clear r3 hb3 hsort hperm HRb HRb' HBb HS HS'
  go_wp2_with fail
  refine (zzcursor_any _ _ _ _ _ _ _).mono ?_
  rintro e wd ⟨rfl, hwd⟩
  have HK : Hid (Cur wc wd wc.heap.size xs ys) := by
    refine ⟨a1, cap1, a2, cap2, ?_, HRc.out, HRc'.out, by rw [HN.out]; exact hk1, by rw [HN'.out]; exact hk2⟩
    rw [hwd, HN.out, HN'.out]
    exact heap_alloc_new _ _
  have HBd : Hid (Below wc.heap.size wc wd) := by rw [hwd]; exact (Below.refl _ _).alloc (Nat.le_refl _) _
  have hsz : wd.heap.size = wc.heap.size + 1 := by rw [hwd]; simp
  have HZD : Hid (wd.heap.size = wc.heap.size + 1) := hsz
  clear hwd hsz HRc HRc' hk1 hk2
  have e0 : i0.bytes * (n + n') ≤ 281474976710656 := by rw [HZ.out]; omega
  have e1 : n + n' ≤ maxLen := by unfold maxLen; omega
  go_wp2_with (at_make; refine wpList_make_own _ rfl (.const (.int .i64 0)) (.tmp 46) 30 rfl wd.heap.size 3 i0 (.int .i64 0) 1 Try.underlying30 hi hz0 hz1 .i64 .i64 _ (n + n') rfl rfl (by omega) e0 e1 (Nat.le_refl _) ?_; intro we hown hgrow; clear e0 e1)
  have HO : Hid (we.ownsRow wd.heap.size 3 1 (.slice (some ⟨wd.heap.size, 0, none⟩) 0 (n + n')) 0 []) := hown
  have HKe : Hid (Cur wc we wc.heap.size xs ys) := HK.out.grown hgrow (by simp)
  have HBe : Hid (Below wc.heap.size wc we) := HBd.out.grown hgrow (by have := HZD.out; omega) (by intro k hk; cases hk)
  have HSe : Hid (wd.heap.size ≤ we.heap.size) := hgrow.size
  clear hown hgrow HK HBd
  go_loopw [7, 8, 9, 10] (fun v y _ _ wr => ∃ (k : Nat) (acc s e : List Int), k ≤ n + n' ∧ y = .int .i64 k ∧ Hid (acc.length = k) ∧ Hid (acc ++ Mrg.mrg s e = zs) ∧ Hid (wr.ownsRow wd.heap.size 3 1 v acc.length (acc.map (Value.int .i64))) ∧ Hid (Cur wc wr wc.heap.size s e) ∧ Hid (Below wc.heap.size wc wr) ∧ Hid (wd.heap.size ≤ wr.heap.size)) (fun _ y _ _ _ => n + n' - (intOf y).toNat)
  case atStart => exact ⟨0, [], xs, ys, by omega, rfl, rfl, HZS, HO, HKe, HBe, HSe⟩
  case round =>
    clear HO HKe HBe HSe
    obtain ⟨k, acc, s, e, hk, rfl, hal, hz, ho, hc, hb, hsz⟩ := hrel
    by_cases hlt : k < n + n'
    · have hl := congrArg List.length hz.out
      rw [List.length_append, hal.out, HZL.out, Mrg.mrg_length] at hl
      obtain ⟨u, r, hur⟩ : ∃ u r, Mrg.mrg s e = u :: r := by
        match hm2 : Mrg.mrg s e with
        | [] => have := congrArg List.length hm2; rw [Mrg.mrg_length] at this; simp only [List.length_nil] at this; omega
        | u :: r => exact ⟨u, r, rfl⟩
      obtain ⟨s', e', hnx, hmr⟩ := nx_mrg hur
      have HNX : Hid (nx s e = some (u, s', e')) := hnx
      have HZ2 : Hid ((acc ++ [u]) ++ Mrg.mrg s' e' = zs) := by rw [← hz.out, hur, hmr, List.append_assoc]; rfl
      have hsl : s.length ≤ 2048 := by omega
      have hel : e.length ≤ 2048 := by omega
      clear hl hur hnx hmr
      go_wp2_with fail
      refine (zznext_yes wc wr wc.heap.size s e s' e' u hb hc hsl hel HNX).mono ?_
      rintro e w1 ⟨rfl, hc1, hg1⟩
      have HC1 : Hid (Cur wc w1 wc.heap.size s' e') := hc1
      have HG1 : Hid (wr.grownBy w1 (some wc.heap.size)) := hg1
      have ho1 : w1.ownsRow wd.heap.size 3 1 u7 acc.length (acc.map (Value.int .i64)) := by
        refine ho.out.kept hg1 ?_
        by_cases hv : u7.ownBlock = none
        · exact .inl hv
        · refine .inr (fun hh => ?_)
          have := (ho.out.lt _ hh).1
          have := HZD.out
          omega
      have HO1 : Hid (w1.ownsRow wd.heap.size 3 1 u7 acc.length (acc.map (Value.int .i64))) := ho1
      have e3 : acc.length + 1 ≤ maxLen := by have := hal.out; unfold maxLen; omega
      have e4 : (acc.length + 1) * 8 ≤ 140737488355328 := by have := hal.out; omega
      have e5 : wd.heap.size ≤ (w1.alloc (.cells #[.int .i64 u] 3)).heap.size := by have := hsz.out; have := hg1.size; simp; omega
      clear ho1 hc1 hg1
      go_wp2_with (at_builtin; refine wpList_append_own _ rfl (.tmp 61) (.tmp 63) 30 rfl wd.heap.size 3 i0 (.int .i64 0) 1 8 Try.underlying30 hi hz0 hz1 HZ.out rfl (by decide) _ acc.length (acc.map (Value.int .i64)) rfl (HO1.out.alloc _) ⟨w1.heap.size, 0, none⟩ 1 1 [.int .i64 u] rfl rfl (one_cell_new _ _ _) (one_one _ _) e3 e4 e5 ?_; intro v' w2 hown' hgrow _; have HST : Hid _ := round_step ho.out hb.out (Nat.le_refl _) (by have := HZD.out; omega) hsz.out HC1.out HG1.out hown' hgrow; clear e3 e4 e5 hown' hgrow)
      go_roundw
      case rel => exact ⟨k + 1, acc ++ [u], s', e', by omega, by go_num, by show _ = _; rw [List.length_append, hal.out]; rfl, HZ2, HST.out.1, HST.out.2.2.1, HST.out.2.1, HST.out.2.2.2⟩
      case measure => simp [intOf]; omega
    · have hk2 : k = n + n' := by omega
      have hl := congrArg List.length hz.out
      rw [List.length_append, hal.out, HZL.out, Mrg.mrg_length] at hl
      have hs0 : s = [] := List.length_eq_zero_iff.1 (by omega)
      have he0 : e = [] := List.length_eq_zero_iff.1 (by omega)
      subst hs0 he0
      have hacc : acc = zs := by have := hz.out; simpa [Mrg.mrg] using this
      subst hacc
      have ho2 := ho.out
      obtain ⟨ag, cg, hv, -, -⟩ := own_gives ho2
      rw [HZL.out] at hv
      subst hv
      have HP : Hid (wc.heap.size < wd.heap.size) := by have := HZD.out; show _ < _; omega
      clear hl ho2
      go_wp2_with fail
      refine (zznext_no wc wr wc.heap.size hc).mono ?_
      rintro e w1 ⟨rfl, hc1, hg1⟩
      have HC1 : Hid (Cur wc w1 wc.heap.size [] []) := hc1
      have HM1 : Hid _ := moved ho.out hb.out (Nat.le_refl _) HP.out hsz.out hg1
      clear hc1 hg1
      go_wp2_with fail
      refine (zznext_no wc w1 wc.heap.size HC1).mono ?_
      rintro e w2 ⟨rfl, hc2, hg2⟩
      have HM2 : Hid _ := moved HM1.out.1 HM1.out.2.1 (Nat.le_refl _) HP.out HM1.out.2.2 hg2
      have HRw : Hid (Row .i64 w2 a3 acc) := HW.out.below HM2.out.2.1
      have HRg : Hid (Row .i64 w2 ag acc) := row_of_own HM2.out.1
      have HBf : Hid (Below w'.heap.size w' w2) := HBc.out.trans (HM2.out.2.1.mono HBc.out.size)
      clear hc2 hg2
      go_wp2_with fail
      refine (equal64_any _ _ _ _ _ acc _ HZL.out (by omega) HRg.out HRw.out).mono ?_
      rintro e w6 ⟨m, rfl, rfl⟩
      go_wp2_with fail
      go_ret
      exact ⟨rfl, below_drewN HBf.out m⟩

set_option maxHeartbeats 400000 in
theorem lawM_not (a a' : Option Addr) (cap cap' n n' : Nat) (xs ys : List Int) (w : World) (hn : xs.length = n) (hn' : ys.length = n') (hm : n ≤ 1024) (hm' : n' ≤ 1024) (hr : Row .i64 w a xs) (hr' : Row .i64 w a' ys)
    (hs : Mrg.nondec xs = false ∨ Mrg.nondec ys = false) :
    Calls Try.prog 5 #[.slice a n cap, .slice a' n' cap'] w fun e w' => e = .returned (.bool true) ∧ Below w.heap.size w w' := by
  have HN : Hid (xs.length = n) := hn
  have HN' : Hid (ys.length = n') := hn'
  have HR : Hid (Row .i64 w a xs) := hr
  have HR' : Hid (Row .i64 w a' ys) := hr'
  have HS : Hid (Mrg.nondec xs = false ∨ Mrg.nondec ys = false) := hs
  clear hn hn' hr hr' hs
  go_enter Try.func5, Try.ntmps5
  go_wp2_with fail
  refine (bytesM_yes _ _ _ _ _ _ _ (by omega) (by omega) (by omega)).mono ?_
  rintro e w' ⟨rfl, rfl⟩
  go_wp2_with fail
  refine (nondec_any _ _ _ xs _ HN.out hm HR.out).mono ?_
  rintro e wq ⟨m1, rfl, rfl⟩
  by_cases h1 : Mrg.nondec xs = true
  · have h2 : Mrg.nondec ys = false := by
      rcases HS.out with h | h
      · rw [h] at h1; cases h1
      · exact h
    have H2 : Hid (Mrg.nondec ys = false) := h2
    clear h2
    rw [h1]
    clear h1
    go_wp2_with fail
    refine (nondec_any _ _ _ ys _ HN'.out hm' (HR'.out.drewN m1)).mono ?_
    rintro e wq ⟨m2, rfl, rfl⟩
    rw [H2.out]
    go_wp2_with fail
    go_ret
    exact ⟨rfl, below_drewN (Below.refl _ _) _⟩
  · have h2 : Mrg.nondec xs = false := by simpa using h1
    rw [h2]
    clear h1 h2
    go_wp2_with fail
    go_ret
    exact ⟨rfl, below_drewN (Below.refl _ _) _⟩

set_option maxHeartbeats 400000 in
theorem lawM_long (a a' : Option Addr) (cap cap' n n' : Nat) (w : World) (hl : ¬ (n ≤ 1024 ∧ n' ≤ 1024)) (hs : n + n' ≤ 1048576) :
    Calls Try.prog 5 #[.slice a n cap, .slice a' n' cap'] w fun e w' => e = .returned (.bool true) ∧ Below w.heap.size w w' := by
  by_cases h1 : n ≤ 1024
  · have h2 : ¬ n' ≤ 1024 := fun h => hl ⟨h1, h⟩
    clear hl
    have d1 : decide ((1024 : Int) < (n : Int)) = false := decide_eq_false (by omega)
    go_enter Try.func5, Try.ntmps5
    go_wp2_with fail
    refine (bytesM_yes _ _ _ _ _ _ _ (by omega) (by omega) hs).mono ?_
    rintro e w' ⟨rfl, rfl⟩
    go_wp2_with fail
    go_ret
    exact ⟨rfl, Below.refl _ _⟩
  · clear hl
    go_enter Try.func5, Try.ntmps5
    go_wp2_with fail
    refine (bytesM_yes _ _ _ _ _ _ _ (by omega) (by omega) hs).mono ?_
    rintro e w' ⟨rfl, rfl⟩
    go_wp2_with fail
    go_ret
    exact ⟨rfl, Below.refl _ _⟩
set_option maxHeartbeats 400000 in
theorem lawM_huge (a a' : Option Addr) (cap cap' n n' : Nat) (w : World) (hm : n ≤ maxLen) (hm' : n' ≤ maxLen) (hs : ¬ n + n' ≤ 1048576) :
    Calls Try.prog 5 #[.slice a n cap, .slice a' n' cap'] w fun e w' => e = .returned (.bool true) ∧ Below w.heap.size w w' := by
  go_enter Try.func5, Try.ntmps5
  go_wp2_with fail
  refine (bytesM_no _ _ _ _ _ _ _ hm hm' hs).mono ?_
  rintro e w' ⟨rfl, rfl⟩
  go_wp2_with fail
  go_ret
  exact ⟨rfl, Below.refl _ _⟩
end Go.Proofs.Qxb6003389a
