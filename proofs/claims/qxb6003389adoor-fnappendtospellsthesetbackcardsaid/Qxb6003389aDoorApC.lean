import Derived.Test.Qxb6003389aDoorApB
import Derived.Test.Qxb6003389aDoorHexR
namespace Go.Proofs.Qxb6003389aDoor
open Go.RowKit

set_option maxHeartbeats 1000000 in
theorem hexDigit_any (c : UInt8) (w : World) (h : Hx.isHex c) : Calls Tryd.prog 38 #[.int .u8 (c.toNat : Int)] w fun e w' => e = .returned (.int .i64 (Hx.dval c : Int)) ∧ w' = w := by
  unfold Hx.isHex at h
  unfold Hx.dval
  generalize c.toNat = n at h
  by_cases h1 : n ≤ 57
  · rw [if_pos h1]
    have d1 : decide ((48 : Int) ≤ (n : Int)) = true := decide_eq_true (by omega)
    have d2 : decide ((n : Int) ≤ 57) = true := decide_eq_true (by omega)
    go_enter Tryd.func38, Tryd.ntmps38
    go_wp2
    go_ret
    exact ⟨by go_num, rfl⟩
  · rw [if_neg h1]
    have d1 : decide ((48 : Int) ≤ (n : Int)) = true := decide_eq_true (by omega)
    have d2 : decide ((n : Int) ≤ 57) = false := decide_eq_false (by omega)
    have d3 : decide ((97 : Int) ≤ (n : Int)) = true := decide_eq_true (by omega)
    have d4 : decide ((n : Int) ≤ 102) = true := decide_eq_true (by omega)
    go_enter Tryd.func38, Tryd.ntmps38
    go_wp2
    go_ret
    exact ⟨by go_num, rfl⟩

/-- The bytes 'T' lie at ⟨g, off⟩. -/
def Lies (w : World) (g off : Nat) (T : List UInt8) : Prop := ∀ i c, T[i]? = some c → w.cell? ⟨g, off + i, none⟩ = some (.int .u8 (c.toNat : Int))

set_option maxHeartbeats 4000000 in
set_option maxRecDepth 5000 in
theorem readHex_any (T p l q : List UInt8) (x g off cap N P : Nat) (w : World) (hT : Hid (T = p ++ (Hx.sp l ++ q))) (hl : Hid (Hx.Num l x)) (hx : x ≤ 1114111) (hN : Hid (T.length = N)) (hP : Hid (p.length = P)) (hm : N ≤ 900000) (hc : Hid (Lies w g off T)) :
    Calls Tryd.prog 31 #[.slice (some ⟨g, off, none⟩) N cap, .int .i64 (P : Int)] w fun e w' => e = .returned (.tuple #[.int .i32 (x : Int), .int .i64 ((P + l.length + 4 : Nat) : Int), .bool true]) ∧ w' = w := by
  have hlen : N = P + (l.length + 4) + q.length := by rw [← hN.out, hT.out, ← hP.out]; simp [Hx.sp]; omega
  obtain ⟨L, hL⟩ : ∃ L, L = l.length := ⟨_, rfl⟩
  have HL : Hid (L = l.length) := hL
  have h6 : L ≤ 6 := by rw [hL]; exact hl.out.six
  have h1 : 1 ≤ L := by rw [hL]; exact hl.out.pos
  rw [← hL] at hlen ⊢
  clear hL
  have HG : Hid (∀ k (h : k < l.length), w.cell? ⟨g, off + (P + 3 + k), none⟩ = some (.int .u8 ((l[k]).toNat : Int))) := by
    intro k hk
    refine hc.out _ _ ?_
    rw [hT.out, ← hP.out, List.getElem?_append_right (by omega), show p.length + 3 + k - p.length = k + 3 from by omega]
    simp only [Hx.sp, List.append_assoc, List.cons_append, List.nil_append, List.getElem?_cons_succ]
    rw [List.getElem?_append_left hk, List.getElem?_eq_getElem hk]
  have c0 : w.cell? ⟨g, off + P, none⟩ = some (.int .u8 92) := by
    refine hc.out P 92 ?_
    rw [hT.out, ← hP.out, List.getElem?_append_right (by omega), Nat.sub_self]
    rfl
  have c1 : w.cell? ⟨g, off + (P + 1), none⟩ = some (.int .u8 120) := by
    refine hc.out (P + 1) 120 ?_
    rw [hT.out, ← hP.out, List.getElem?_append_right (by omega), show p.length + 1 - p.length = 1 from by omega]
    rfl
  have c2 : w.cell? ⟨g, off + (P + 2), none⟩ = some (.int .u8 123) := by
    refine hc.out (P + 2) 123 ?_
    rw [hT.out, ← hP.out, List.getElem?_append_right (by omega), show p.length + 2 - p.length = 2 from by omega]
    rfl
  have c3 : w.cell? ⟨g, off + (P + 3 + L), none⟩ = some (.int .u8 125) := by
    refine hc.out (P + 3 + L) 125 ?_
    rw [hT.out, ← hP.out, HL.out, List.getElem?_append_right (by omega), show p.length + 3 + l.length - p.length = l.length + 3 from by omega]
    simp [Hx.sp]
  go_enter Tryd.func31, Tryd.ntmps31
  go_wp2_with fail
  go_loopw [7, 8, 9, 10] (fun y1 y2 y3 y4 wr => ∃ (k : Nat) (f : UInt8), k ≤ L ∧ y1 = .int .i64 ((P + 3 + k : Nat) : Int) ∧ y2 = .int .i64 ((Hx.hval (l.take k) : Nat) : Int) ∧ y3 = .int .i64 (k : Int) ∧ y4 = .int .u8 (f.toNat : Int) ∧ wr = w ∧ Hid (1 ≤ k → l.head? = some f)) (fun y1 _ _ _ _ => N + 1 - (intOf y1).toNat)
  case atStart => exact ⟨0, 0, by omega, rfl, rfl, rfl, rfl, rfl, fun h => by omega⟩
  case round =>
    obtain ⟨k, f, hk, rfl, rfl, rfl, rfl, rfl, hf⟩ := hrel
    by_cases hlt : k < L
    · have hkl : k < l.length := by rw [← HL.out]; exact hlt
      obtain ⟨t1, t2, t3, t4⟩ := hl.out.take k hkl
      have cK := HG.out k hkl
      have HF0 : Hid (k = 0 → l.head? = some l[k]) := by
        intro h0
        subst h0
        rw [List.head?_eq_getElem?, List.getElem?_eq_getElem hkl]
      have t5 := Hx.dval_lt _ t3
      have HT1 : Hid _ := t1
      generalize l[k] = c at cK t3 t5 HT1 HF0
      generalize Hx.hval (l.take k) = V at HT1 t2 ⊢
      have HX : Hid (Hx.isHex c) := t3
      have d1 : ((c.toNat : Int) != 125) = true := by
        have : c.toNat ≠ 125 := by have := t3; unfold Hx.isHex at this; omega
        simp; omega
      clear t1 t3
      go_wp2_with fail
      refine (hexDigit_any c _ HX.out).mono ?_
      rintro e w ⟨rfl, rfl⟩
      obtain ⟨d, hd⟩ : ∃ d, d = Hx.dval c := ⟨_, rfl⟩
      rw [← hd] at t5 HT1 ⊢
      clear hd
      have d2 : decide ((d : Int) < 0) = false := decide_eq_false (by omega)
      have d3 : ((k : Int) == 6) = false := beq_eq_false_iff_ne.2 (by omega)
      by_cases h0 : k = 0
      · subst h0
        go_wp2_with fail
        go_roundw
        case rel => exact ⟨1, c, by omega, by go_num, by rw [HT1.out]; go_num, rfl, rfl, trivial, fun _ => HF0.out trivial⟩
        case measure => simp [intOf]; omega
      · have d4 : ((k : Int) == 0) = false := beq_eq_false_iff_ne.2 (by omega)
        go_wp2_with fail
        go_roundw
        case rel => exact ⟨k + 1, f, by omega, by go_num, by rw [HT1.out]; go_num, by go_num, rfl, trivial, fun _ => hf.out (by omega)⟩
        case measure => simp [intOf]; omega
    · have hkL : k = L := by omega
      subst hkL
      have hv : Hx.hval (l.take k) = x := by rw [HL.out]; exact hl.out.end_
      rw [hv]
      clear hv
      have d1 : decide ((1114111 : Int) < (x : Int)) = false := decide_eq_false (by omega)
      have d2 : ((k : Int) == 0) = false := beq_eq_false_iff_ne.2 (by omega)
      by_cases h2 : 2 ≤ k
      · have d3 : decide ((1 : Int) < (k : Int)) = true := decide_eq_true (by omega)
        have d4 : ((f.toNat : Int) == 48) = false := by
          refine beq_eq_false_iff_ne.2 (fun h => ?_)
          have h3 := hl.out.lead (by rw [← HL.out]; exact h2)
          rw [hf.out (by omega)] at h3
          apply h3
          have : f.toNat = (48 : UInt8).toNat := by show f.toNat = 48; omega
          rw [UInt8.toNat_inj.1 this]
        go_wp2_with fail
        go_ret3
        exact ⟨by go_num, rfl⟩
      · have d3 : decide ((1 : Int) < (k : Int)) = false := decide_eq_false (by omega)
        go_wp2_with fail
        go_ret3
        exact ⟨by go_num, rfl⟩
end Go.Proofs.Qxb6003389aDoor
