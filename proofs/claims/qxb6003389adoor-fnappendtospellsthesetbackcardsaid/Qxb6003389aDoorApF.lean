import Derived.Test.Qxb6003389aDoorApE
import Derived.Laws.IdiomStrings
namespace Go.Proofs.Qxb6003389aDoor
open Go.RowKit

set_option maxHeartbeats 1000000 in
theorem lawA_long (a a2 : Option Addr) (n cap n2 cap2 : Nat) (w : World) (hn : n ≤ maxLen) (hn2 : n2 ≤ maxLen) (h : ¬ (n ≤ 65536 ∧ n2 ≤ 65536)) :
    Calls Tryd.prog 3 #[.slice a n cap, .slice a2 n2 cap2] w fun e w' => e = .returned (.bool true) ∧ Below w.heap.size w w' := by
  have HX1 : Hid (n ≤ maxLen) := hn
  have HX2 : Hid (n2 ≤ maxLen) := hn2
  unfold maxLen at hn hn2
  by_cases h1 : n ≤ 65536
  · have h2 : ¬ n2 ≤ 65536 := by omega
    have d1 : decide ((65536 : Int) < (n : Int)) = false := decide_eq_false (by omega)
    clear h
    go_enter Tryd.func3, Tryd.ntmps3
    go_wp2_with fail
    refine (bytes_any a a2 n cap n2 cap2 w HX1.out HX2.out).mono ?_
    rintro e w ⟨b, rfl, rfl, -⟩
    cases b
    · go_wp2_with fail
      go_ret
      exact ⟨rfl, Below.refl _ _⟩
    · go_wp2_with fail
      go_ret
      exact ⟨rfl, Below.refl _ _⟩
  · have d1 : decide ((65536 : Int) < (n : Int)) = true := decide_eq_true (by omega)
    clear h
    go_enter Tryd.func3, Tryd.ntmps3
    go_wp2_with fail
    refine (bytes_any a a2 n cap n2 cap2 w HX1.out HX2.out).mono ?_
    rintro e w ⟨b, rfl, rfl, -⟩
    cases b
    · go_wp2_with fail
      go_ret
      exact ⟨rfl, Below.refl _ _⟩
    · go_wp2_with fail
      go_ret
      exact ⟨rfl, Below.refl _ _⟩

/-- The bytes' numbers. -/
def octs (t : List UInt8) : List Int := t.map fun c => (c.toNat : Int)
def ints (ns : List Nat) : List Int := ns.map fun (n : Nat) => (n : Int)

set_option maxHeartbeats 4000000 in
set_option maxRecDepth 5000 in
theorem lawA_main (a a2 : Option Addr) (n cap n2 cap2 : Nat) (zs : List Int) (t : List UInt8) (w : World) (hn : n ≤ 65536) (hn2 : n2 ≤ 65536) (hzl : Hid (zs.length = n)) (htl : Hid (t.length = n2)) (hr : Hid (Row .i32 w a zs)) (hr2 : Hid (Row .u8 w a2 (octs t))) (hnil : a = none → n = 0) (hnil2 : a2 = none → n2 = 0) (h5 : 5 < w.heap.size) (hd : Hid (Deb w)) :
    Calls Tryd.prog 3 #[.slice a n cap, .slice a2 n2 cap2] w fun e w' => e = .returned (.bool true) ∧ Below w.heap.size w w' := by
  have HX1 : Hid (n ≤ maxLen) := by show _ ≤ _; unfold maxLen; omega
  have HX2 : Hid (n2 ≤ maxLen) := by show _ ≤ _; unfold maxLen; omega
  have HNIL : Hid (a = none → n = 0) := hnil
  have HNIL2 : Hid (a2 = none → n2 = 0) := hnil2
  have d1 : decide ((65536 : Int) < (n : Int)) = false := decide_eq_false (by omega)
  have d2 : decide ((65536 : Int) < (n2 : Int)) = false := decide_eq_false (by omega)
  clear hnil hnil2
  go_enter Tryd.func3, Tryd.ntmps3
  go_wp2_with fail
  refine (bytes_any a a2 n cap n2 cap2 w HX1.out HX2.out).mono ?_
  rintro e w ⟨b, rfl, rfl, hb⟩
  obtain rfl := hb hn hn2
  clear hb
  go_wp2_with fail
  refine (pairs_any a cap n zs w hzl.out hn hr).mono ?_
  rintro e w1 ⟨b, m, rfl, rfl, hp⟩
  cases b
  · clear hp
    go_wp2_with fail
    go_ret
    exact ⟨rfl, below_drewN (Below.refl _ _) m⟩
  have HP : Hid (∃ ns : List Nat, zs = ints ns ∧ Ok ns) := by
    have := hp rfl
    rw [← hzl.out] at this
    exact Pr.nums this.1 this.2
  clear hp
  go_wp2_with fail
  refine (clone32_any a cap n zs (w.drewN m) hzl.out hn hr HNIL.out).mono ?_
  rintro e w2 ⟨a', rfl, hs2, hb2⟩
  have HS2 : Hid (Row .i32 w2 a' zs) := Row.ofOwn hs2
  have HB2 : Hid (Below w.heap.size w w2) := ⟨hb2.os, hb2.tape, hb2.output, hb2.size, hb2.block⟩
  clear hs2 hb2
  go_wp2_with fail
  refine (clone8_any a2 cap2 n2 (octs t) w2 (by unfold octs; rw [List.length_map]; exact htl.out) hn2 (hr2.out.below HB2.out) HNIL2.out).mono ?_
  rintro e w3 ⟨a3, rfl, hs3, hb3⟩
  have HS3 : Hid (Own5 w2.heap.size w3 (.slice a3 n2 n2) t) := own5_of hs3 htl.out
  have HR3 : Hid (Row .u8 w3 a3 (octs t)) := Row.ofOwn hs3
  have HB3 : Hid (Below w2.heap.size w2 w3) := hb3
  have HNIL3 : Hid (a3 = none → n2 = 0) := by
    intro h
    rcases hs3.2 with ⟨_, h0⟩ | ⟨g, cap', cur, h1, _⟩
    · exact h0
    · rw [h] at h1; cases h1
  clear hs3 hb3
  go_wp2_with fail
  refine (clone8_any a3 n2 n2 (octs t) w3 (by unfold octs; rw [List.length_map]; exact htl.out) hn2 HR3 HNIL3.out).mono ?_
  rintro e w4 ⟨a4, rfl, hs4, hb4⟩
  have HR4 : Hid (Row .u8 w4 a4 (octs t)) := Row.ofOwn hs4
  have HK4 : Hid (w4.ownsRow w3.heap.size 5 1 (.slice a4 n2 n2) n2 ((octs t).map (Value.int .u8))) := hs4
  have HB4 : Hid (Below w3.heap.size w3 w4) := hb4
  clear hs4 hb4
  go_wp2_with fail
  have HS34 : Hid (Own5 w2.heap.size w4 (.slice a3 n2 n2) t) := own_below HS3.out HB4.out
  have HB24 : Hid (Below w2.heap.size w2 w4) := HB3.out.trans (HB4.out.mono HB3.out.size)
  have HB04 : Hid (Below w.heap.size w w4) := HB2.out.trans (HB24.out.mono HB2.out.size)
  have HS24 : Hid (Row .i32 w4 a' zs) := HS2.out.below HB24.out
  have HD4 : Hid (Deb w4) := hd.out.below HB04.out h5
  obtain ⟨ns, hns, hok⟩ := HP.out
  have HOK : Hid (Ok ns) := hok
  have HZ : Hid (zs = ints ns) := hns
  have hnl : ns.length = n := by have := hzl.out; rw [hns] at this; unfold ints at this; rw [List.length_map] at this; exact this
  have HNL : Hid (ns.length = n) := hnl
  clear hns hok hnl HP
  by_cases h0 : n = 0
  · subst h0
    refine (zzAppendNone_any a' 0 w2.heap.size t (.slice a3 n2 n2) w4 (Nat.le_trans (Nat.le_of_eq htl.out) hn2) HB24.out.size HS34).mono ?_
    rintro e w5 ⟨v5, rfl, ho5, hg5⟩
    have HB05 : Hid (Below w.heap.size w w5) := HB04.out.grown hg5 HB04.out.size (fun k hk => Nat.le_trans HB2.out.size (World.ownsRow.lt HS3.out k hk).1)
    have HR5 : Hid (Row .u8 w5 a4 (octs t)) := by
      refine Row.ofOwn (HK4.out.kept hg5 ?_)
      by_cases hq : Value.ownBlock (.slice a4 n2 n2) = none
      · exact .inl hq
      · refine .inr fun he => ?_
        obtain ⟨k, hk⟩ := Option.ne_none_iff_exists'.1 hq
        have h1 := (HK4.out.lt k hk).1
        have h2 := (World.ownsRow.lt HS3.out k (by rw [← he]; exact hk)).2
        omega
    obtain ⟨G, c, rfl, hc, hl5⟩ := own5_slice ho5 (by rw [List.length_append]; show 0 < _ + 18; omega)
    have HL5 : Hid (Lies w5 G 0 (t ++ every.data.toList)) := hl5
    have hN : (t ++ every.data.toList).length = n2 + 18 := by have h9 := htl.out; rw [List.length_append, h9]; rfl
    rw [hN] at hc ⊢
    clear ho5 hg5 hl5 hN
    go_wp2_with fail
    go_loopw [7] (fun y wr => ∃ k m2 : Nat, k ≤ n2 ∧ y = .int .i64 (k : Int) ∧ wr = w5.drewN m2) (fun y _ => n2 + 1 - (intOf y).toNat)
    case atStart => exact ⟨0, 0, by omega, rfl, rfl⟩
    case round =>
      obtain ⟨k, m2, hk, rfl, rfl⟩ := hrel
      by_cases hlt : k < n2
      · rcases HR5.out with hz | ⟨b, off, hx, hcc⟩
        · have := htl.out; unfold octs at hz; rw [List.map_eq_nil_iff.1 hz] at this; simp at this; omega
        subst hx
        have hkt : k < t.length := by rw [htl.out]; exact hlt
        have c1 : w5.cell? ⟨G, k, none⟩ = some (.int .u8 (t[k].toNat : Int)) := by
          have := HL5.out k t[k] (by rw [List.getElem?_append_left hkt, List.getElem?_eq_getElem hkt])
          rw [Nat.zero_add] at this
          exact this
        have c2 : w5.cell? ⟨b, off + k, none⟩ = some (.int .u8 (t[k].toNat : Int)) := by
          have := hcc k (by unfold octs; rw [List.length_map]; exact hkt)
          unfold octs at this
          rw [List.getElem?_map, List.getElem?_eq_getElem hkt] at this
          exact this
        generalize t[k].toNat = x at c1 c2
        have hkN : (k : Int) < ((n2 : Int) + 18) := by omega
        clear hcc
        go_wp2_with fail
        go_quiet (fail)
        go_wp2
        go_roundw
        case rel => exact ⟨k + 1, _, by omega, by go_num, rfl⟩
        case measure => simp [intOf]; omega
      · obtain rfl : k = n2 := by omega
        have hcn : ¬ c = k := by omega
        have hcv : ∀ m, (convert 23 9 (.slice (some ⟨G, k, none⟩) 18 (c - k))).run Tryd.prog (w5.drewN m) = .ok (.string ⟨#[91, 94, 92, 120, 48, 48, 45, 92, 120, 123, 49, 48, 70, 70, 70, 70, 125, 93]⟩) (w5.drewN m) := by
          intro m
          refine run_convert_bytes_back (P := Tryd.prog) (w5.drewN m) 23 9 5 ⟨G, k, none⟩ (c - k) every.data.toList Tryd.underlying23 Tryd.underlying5 Tryd.underlying9 ?_
          intro j hj
          rw [Lib.add_plain]
          have := HL5.out (k + j) every.data.toList[j] (by rw [List.getElem?_append_right (by rw [htl.out]; omega), htl.out, show k + j - k = j from by omega]; exact List.getElem?_eq_getElem hj)
          rw [Nat.zero_add] at this
          exact this
        go_wp2
        go_ret
        exact ⟨rfl, below_drewN HB05.out m2⟩
  · have hne : ns ≠ [] := by intro h; have := HNL.out; rw [h] at this; simp at this; omega
    refine (zzAppend_any a' a3 n n n2 ns t w4 HNL htl hne hn hn2 HOK (Row.nums (by have := HS24.out; rw [HZ.out] at this; exact this)) (Nat.lt_of_lt_of_le h5 HB04.out.size) HD4 ⟨_, HS34.out⟩).mono ?_
    rintro e w5 ⟨v5, rfl, ts, hsp, ho5, hb5⟩
    have HSP : Hid (Hx.Spell ns ts) := hsp
    have HB5 : Hid (Below w4.heap.size w4 w5) := hb5
    have HLT : Hid (ts.length ≤ 700000) := by have := hsp.len; have h9 := HNL.out; show _ ≤ _; omega
    obtain ⟨G, c, rfl, hc, hl5⟩ := own5_slice ho5 (by simp; omega)
    have HL5 : Hid (Lies w5 G 0 (t ++ [91] ++ ts ++ [93])) := hl5
    obtain ⟨M, hM⟩ : ∃ M, M = ts.length := ⟨_, rfl⟩
    have HM : Hid (M = ts.length) := hM
    have hN : (t ++ [91] ++ ts ++ [93]).length = n2 + M + 2 := by have h9 := htl.out; rw [List.length_append, List.length_append, List.length_append]; simp only [List.length_cons, List.length_nil]; omega
    rw [hN] at hc ⊢
    have hm7 : M ≤ 700000 := by rw [hM]; exact HLT.out
    clear hsp ho5 hb5 hl5 hM hN
    have HR5 : Hid (Row .u8 w5 a4 (octs t)) := HR4.out.below HB5.out
    have HS5 : Hid (Row .i32 w5 a' zs) := HS24.out.below HB5.out
    have HB05 : Hid (Below w.heap.size w w5) := HB04.out.trans (HB5.out.mono HB04.out.size)
    go_wp2_with fail
    go_loopw [7] (fun y wr => ∃ k m2 : Nat, k ≤ n2 ∧ y = .int .i64 (k : Int) ∧ wr = w5.drewN m2) (fun y _ => n2 + 1 - (intOf y).toNat)
    case atStart => exact ⟨0, 0, by omega, rfl, rfl⟩
    case round =>
      obtain ⟨k, m2, hk, rfl, rfl⟩ := hrel
      by_cases hlt : k < n2
      · rcases HR5.out with hz | ⟨b, off, hx, hcc⟩
        · have := htl.out; unfold octs at hz; rw [List.map_eq_nil_iff.1 hz] at this; simp at this; omega
        subst hx
        have hkt : k < t.length := by rw [htl.out]; exact hlt
        have c1 : w5.cell? ⟨G, k, none⟩ = some (.int .u8 (t[k].toNat : Int)) := by
          have := HL5.out k t[k] (by rw [List.append_assoc, List.append_assoc, List.getElem?_append_left hkt, List.getElem?_eq_getElem hkt])
          rw [Nat.zero_add] at this
          exact this
        have c2 : w5.cell? ⟨b, off + k, none⟩ = some (.int .u8 (t[k].toNat : Int)) := by
          have := hcc k (by unfold octs; rw [List.length_map]; exact hkt)
          unfold octs at this
          rw [List.getElem?_map, List.getElem?_eq_getElem hkt] at this
          exact this
        generalize t[k].toNat = x at c1 c2
        have hkN : (k : Int) < ((n2 : Int) + (M : Int) + 2) := by omega
        clear hcc
        go_wp2_with fail
        go_quiet (fail)
        go_wp2
        go_roundw
        case rel => exact ⟨k + 1, _, by omega, by go_num, rfl⟩
        case measure => simp [intOf]; omega
      · obtain rfl : k = n2 := by omega
        have hcn : ¬ c = k := by omega
        have hn0 : ((n : Int) == 0) = false := beq_eq_false_iff_ne.2 (by omega)
        go_wp2_with fail
        rw [show k + M + 2 - k = M + 2 from by omega]
        have HL6 : Hid (Lies (w5.drewN m2) G k ([91] ++ (ts ++ [93]))) := by
          intro i c' hi
          have := HL5.out (k + i) c' (by rw [List.append_assoc, List.append_assoc, List.getElem?_append_right (by rw [htl.out]; omega), htl.out, show k + i - k = i from by omega]; exact hi)
          rw [Nat.zero_add] at this
          exact this
        have HLN : Hid (([91] ++ (ts ++ [93])).length = M + 2) := by show _ = _; rw [HM.out]; simp
        refine (readClass_any ([91] ++ (ts ++ [93])) ts ns G k (c - k) (M + 2) (w5.drewN m2) rfl HSP (Nat.le_trans (Nat.le_of_eq HNL.out) hn) HLN (by omega) HL6).mono ?_
        rintro e w6 ⟨v6, rfl, ho6, hb6⟩
        obtain ⟨a6, c6, rfl, hr6⟩ := own21_slice ho6 (by have := HNL.out; omega)
        have HR6 : Hid (Row .i32 w6 a6 zs) := by rw [HZ.out]; exact hr6
        have HB56 : Hid (Below w5.heap.size w5 w6) := ⟨hb6.os, hb6.tape, hb6.output, hb6.size, hb6.block⟩
        have HS6 : Hid (Row .i32 w6 a' zs) := HS5.out.below HB56.out
        have HB06 : Hid (Below w.heap.size w w6) := HB05.out.trans (HB56.out.mono HB05.out.size)
        rw [HNL.out]
        clear ho6 hr6 hb6
        go_wp2_with fail
        refine (equal_any a6 a' c6 n n zs w6 hzl.out hn HR6 HS6).mono ?_
        rintro e w7 ⟨m7, rfl, rfl⟩
        go_wp2_with fail
        go_ret
        exact ⟨rfl, below_drewN HB06.out m7⟩
end Go.Proofs.Qxb6003389aDoor
