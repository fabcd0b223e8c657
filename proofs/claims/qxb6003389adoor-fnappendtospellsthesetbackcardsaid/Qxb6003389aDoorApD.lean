import Derived.Test.Qxb6003389aDoorApC
namespace Go.Proofs.Qxb6003389aDoor
open Go.RowKit

theorem Lies.below {w w' : World} {g off : Nat} {T : List UInt8} (h : Lies w g off T) (hb : Below w.heap.size w w') : Lies w' g off T := by
  intro i c hi
  have := h i c hi
  rw [hb.cell (by exact World.block_lt_of_cell? w _ this)]
  exact this

theorem Hx.Spell.head {r : List Nat} {t : List UInt8} (h : Hx.Spell r t) : t = [] ∨ ∃ t', t = 92 :: t' := by
  cases h with
  | nil => exact .inl rfl
  | one h1 h2 h3 => exact .inr ⟨_, rfl⟩
  | two h1 h2 h3 h4 h5 h6 => exact .inr ⟨_, rfl⟩

def i32s (ns : List Nat) : List Value := ns.map fun (n : Nat) => Value.int .i32 (n : Int)
def Own21 (B : Nat) (w : World) (v : Value) (ns : List Nat) : Prop := w.ownsRow B 21 1 v ns.length (i32s ns)
theorem own21_mk {B : Nat} {w : World} {v : Value} {ns : List Nat} {x y : Nat} (h : w.ownsRow B 21 1 v (ns.length + 2) (i32s ns ++ [.int .i32 (x : Int), .int .i32 (y : Int)])) : Own21 B w v (ns ++ [x, y]) := by
  unfold Own21 i32s
  rw [List.length_append, List.map_append]
  exact h
theorem two_cells (w : World) (x y : Value) (e : TypeId) : ∀ j u, [x, y][j]? = some u → (w.alloc (.cells #[x, y] e)).cell? ((⟨w.heap.size, 0, none⟩ : Addr).add j) = some u := by
  intro j u hj
  match j, hj with
  | 0, hj => simp at hj; subst hj; simp [Addr.add]
  | 1, hj => simp at hj; subst hj; simp [Addr.add]
theorem two_one (k : IntKind) (x y : Int) : ∀ u ∈ [Value.int k x, Value.int k y], u.oneCell' = true := by
  intro u hu
  simp at hu
  rcases hu with rfl | rfl <;> rfl

/-- What the reader hands back. -/
def Reads (ns : List Nat) (w : World) (e : Ending) (w' : World) : Prop := ∃ v', e = .returned (.tuple #[v', .bool true]) ∧ Own21 w.heap.size w' v' ns ∧ Below w.heap.size w w'

set_option maxHeartbeats 1000000 in
set_option maxRecDepth 5000 in
theorem readClass_any (T ts : List UInt8) (ns : List Nat) (g off cap N : Nat) (w : World) (hT : Hid (T = [91] ++ (ts ++ [93]))) (hs : Hid (Hx.Spell ns ts)) (hn : Hid (ns.length ≤ 65536)) (hN : Hid (T.length = N)) (hm : N ≤ 900000) (hc : Hid (Lies w g off T)) :
    Calls Tryd.prog 13 #[.slice (some ⟨g, off, none⟩) N cap] w fun e w' => Reads ns w e w' := by
  obtain ⟨i0, hi, hz0, hz1, hz2⟩ := info_parts info21
  have HZ : Hid (i0.bytes = 4) := hz2
  clear hz2
  have hlen : N = ts.length + 2 := by rw [← hN.out, hT.out]; simp
  have c0 : w.cell? ⟨g, off, none⟩ = some (.int .u8 91) := by
    have := hc.out 0 91 (by rw [hT.out]; rfl)
    simpa using this
  have c1 : w.cell? ⟨g, off + (ts.length + 1), none⟩ = some (.int .u8 93) := by
    refine hc.out (ts.length + 1) 93 ?_
    rw [hT.out]
    simp
  obtain ⟨M, hM⟩ : ∃ M, M = ts.length := ⟨_, rfl⟩
  rw [← hM] at c1 hlen
  clear hM
  subst hlen
  go_enter Tryd.func13, Tryd.ntmps13
  go_wp2_with fail
  go_loopw [4, 5] (fun y z wr => ∃ (acc todo : List Nat) (pre s : List UInt8) (P : Nat), z = .int .i64 (P : Int) ∧ Hid (acc ++ todo = ns) ∧ Hid (T = pre ++ (s ++ [93])) ∧ Hid (Hx.Spell todo s) ∧ Hid (pre.length = P) ∧ Hid (Own21 w.heap.size wr y acc) ∧ Hid (Below w.heap.size w wr)) (fun _ z _ => M + 2 - (intOf z).toNat)
  case atStart => exact ⟨[], ns, [91], ts, 1, rfl, rfl, hT, hs, rfl, World.ownsRow_nil _ _ _ _, Below.refl _ _⟩
  case round =>
    obtain ⟨acc, todo, pre, s, P, rfl, hns, hTT, hsp, hpl, hO, hb⟩ := hrel
    have HC : Hid (Lies wr g off T) := hc.out.below hb.out
    have hMM : M + 2 = P + (s.length + 1) := by rw [← hN.out, hTT.out, ← hpl.out]; simp
    have hsp' := hsp.out
    clear hsp
    cases hsp' with
    | nil =>
      obtain rfl : P = M + 1 := by simp at hMM; omega
      clear hMM
      go_wp2_with fail
      go_ret2
      refine ⟨u4, by simp; omega, ?_, hb.out⟩
      have := hns.out
      rw [List.append_nil] at this
      rw [← this]
      exact hO.out
    | @one x l r t h1 h2 h3 =>
      have HA : Hid (acc.length + 2 ≤ 65536) := by have := hn.out; rw [← hns.out] at this; simp at this; show _ ≤ _; omega
      have HTT : Hid (T = pre ++ (Hx.sp l ++ (t ++ [93]))) := by show _ = _; rw [hTT.out, List.append_assoc]
      have HL : Hid (Hx.Num l x) := h2
      have HS : Hid (Hx.Spell r t) := h3
      rw [List.length_append, Hx.sp_len] at hMM
      have hp1 : P < M + 1 := by omega
      have HMM : Hid _ := hMM
      clear h2 h3 hTT hMM
      go_wp2_with fail
      refine (readHex_any T pre l (t ++ [93]) x g off cap (M + 2) P wr HTT HL h1 hN hpl hm HC).mono ?_
      rintro e wr ⟨rfl, rfl⟩
      rcases Hx.Spell.head HS.out with rfl | ⟨t', rfl⟩
      · obtain ⟨L, hL⟩ : ∃ L, L = l.length := ⟨_, rfl⟩
        have HLL : Hid (L = l.length) := hL
        rw [← hL] at HMM ⊢
        clear hL
        have hp2 : ¬ (P + L + 4 < M + 1) := by have hMM := HMM.out; simp at hMM; omega
        have e3 : acc.length + 2 ≤ maxLen := by have := HA.out; unfold maxLen; omega
        have e4 : (acc.length + 2) * 4 ≤ 140737488355328 := by have := HA.out; omega
        have e5 : w.heap.size ≤ (wr.alloc (.cells #[.int .i32 (x : Int), .int .i32 (x : Int)] 21)).heap.size := by have := hb.out.size; simp; omega
        go_wp2_with (at_builtin; refine wpList_append_own _ rfl (.tmp 72) (.tmp 75) 22 rfl w.heap.size 21 i0 (.int .i32 0) 1 4 Tryd.underlying22 hi hz0 hz1 HZ.out rfl (by decide) u4 acc.length (i32s acc) rfl (World.ownsRow.alloc hO.out _) ⟨wr.heap.size, 0, none⟩ 2 2 [.int .i32 (x : Int), .int .i32 (x : Int)] rfl rfl (two_cells _ _ _ _) (two_one _ _ _) e3 e4 e5 ?_; intro v3 w3 hown hgrow _; have HO3 : Hid (Own21 w.heap.size w3 v3 (acc ++ [x, x])) := own21_mk hown; have HB3 : Hid (Below w.heap.size w w3) := (hb.out.alloc hb.out.size _).grown hgrow e5 (fun k hk => (World.ownsRow.lt hO.out k hk).1); clear e3 e4 e5 hown hgrow)
        go_roundw
        case rel => exact ⟨acc ++ [x, x], r, pre ++ Hx.sp l, [], _, by rfl, by show _ = _; have := hns.out; simpa using this, by show _ = _; have := HTT.out; simpa using this, HS, by show _ = _; have := hpl.out; have := HLL.out; simp [Hx.sp_len]; omega, HO3, HB3⟩
        case measure => simp [intOf]; omega
      · have ck : wr.cell? ⟨g, off + (P + l.length + 4), none⟩ = some (.int .u8 92) := by
          refine HC.out (P + l.length + 4) 92 ?_
          rw [HTT.out, ← hpl.out, List.getElem?_append_right (by omega), show pre.length + l.length + 4 - pre.length = (Hx.sp l).length from by rw [Hx.sp_len]; omega, List.getElem?_append_right (by omega), Nat.sub_self]
          rfl
        obtain ⟨L, hL⟩ : ∃ L, L = l.length := ⟨_, rfl⟩
        have HLL : Hid (L = l.length) := hL
        rw [← hL] at HMM ck ⊢
        clear hL
        have hp2 : P + L + 4 < M + 1 := by have hMM := HMM.out; simp at hMM; omega
        have e3 : acc.length + 2 ≤ maxLen := by have := HA.out; unfold maxLen; omega
        have e4 : (acc.length + 2) * 4 ≤ 140737488355328 := by have := HA.out; omega
        have e5 : w.heap.size ≤ (wr.alloc (.cells #[.int .i32 (x : Int), .int .i32 (x : Int)] 21)).heap.size := by have := hb.out.size; simp; omega
        go_wp2_with (at_builtin; refine wpList_append_own _ rfl (.tmp 72) (.tmp 75) 22 rfl w.heap.size 21 i0 (.int .i32 0) 1 4 Tryd.underlying22 hi hz0 hz1 HZ.out rfl (by decide) u4 acc.length (i32s acc) rfl (World.ownsRow.alloc hO.out _) ⟨wr.heap.size, 0, none⟩ 2 2 [.int .i32 (x : Int), .int .i32 (x : Int)] rfl rfl (two_cells _ _ _ _) (two_one _ _ _) e3 e4 e5 ?_; intro v3 w3 hown hgrow _; have HO3 : Hid (Own21 w.heap.size w3 v3 (acc ++ [x, x])) := own21_mk hown; have HB3 : Hid (Below w.heap.size w w3) := (hb.out.alloc hb.out.size _).grown hgrow e5 (fun k hk => (World.ownsRow.lt hO.out k hk).1); clear e3 e4 e5 hown hgrow)
        go_roundw
        case rel => exact ⟨acc ++ [x, x], r, pre ++ Hx.sp l, 92 :: t', _, by rfl, by show _ = _; have := hns.out; simpa using this, by show _ = _; have := HTT.out; simpa using this, HS, by show _ = _; have := hpl.out; have := HLL.out; simp [Hx.sp_len]; omega, HO3, HB3⟩
        case measure => simp [intOf]; omega
    | @two x y l m r t h0 h1 h1' h2 h2' h3 =>
      have HA : Hid (acc.length + 2 ≤ 65536) := by have := hn.out; rw [← hns.out] at this; simp at this; show _ ≤ _; omega
      have HTT : Hid (T = pre ++ (Hx.sp l ++ ([45] ++ (Hx.sp m ++ (t ++ [93]))))) := by show _ = _; rw [hTT.out]; simp only [List.append_assoc]
      have HL : Hid (Hx.Num l x) := h2
      have HM : Hid (Hx.Num m y) := h2'
      have HS : Hid (Hx.Spell r t) := h3
      rw [List.length_append, List.length_append, List.length_append, Hx.sp_len, Hx.sp_len] at hMM
      simp only [List.length_cons, List.length_nil] at hMM
      have hp1 : P < M + 1 := by omega
      have ck : wr.cell? ⟨g, off + (P + l.length + 4), none⟩ = some (.int .u8 45) := by
        refine HC.out (P + l.length + 4) 45 ?_
        rw [HTT.out, ← hpl.out, List.getElem?_append_right (by omega), show pre.length + l.length + 4 - pre.length = (Hx.sp l).length from by rw [Hx.sp_len]; omega, List.getElem?_append_right (by omega), Nat.sub_self]
        rfl
      have HT2 : Hid (T = (pre ++ (Hx.sp l ++ [45])) ++ (Hx.sp m ++ (t ++ [93]))) := by show _ = _; rw [HTT.out]; simp only [List.append_assoc]
      have HP2 : Hid ((pre ++ (Hx.sp l ++ [45])).length = P + l.length + 4 + 1) := by show _ = _; rw [List.length_append, List.length_append, Hx.sp_len, hpl.out]; simp; omega
      have hneq : ((y : Int) == (x : Int)) = false := beq_eq_false_iff_ne.2 (by omega)
      have HMM : Hid _ := hMM
      clear h2 h2' h3 hTT hMM
      go_wp2_with fail
      refine (readHex_any T pre l ([45] ++ (Hx.sp m ++ (t ++ [93]))) x g off cap (M + 2) P wr HTT HL h1 hN hpl hm HC).mono ?_
      rintro e wr ⟨rfl, rfl⟩
      obtain ⟨L, hL⟩ : ∃ L, L = l.length := ⟨_, rfl⟩
      have HLL : Hid (L = l.length) := hL
      rw [← hL] at HMM ck HP2 ⊢
      clear hL
      have hp2 : P + L + 4 < M + 1 := by have hMM := HMM.out; omega
      go_wp2_with fail
      refine (readHex_any T (pre ++ (Hx.sp l ++ [45])) m (t ++ [93]) y g off cap (M + 2) (P + L + 4 + 1) wr HT2 HM h1' hN HP2 hm HC).mono ?_
      rintro e wr ⟨rfl, rfl⟩
      obtain ⟨K, hK⟩ : ∃ K, K = m.length := ⟨_, rfl⟩
      have HKK : Hid (K = m.length) := hK
      rw [← hK] at HMM ⊢
      clear hK
      have hp3 : P + L + 4 + 1 + K + 4 ≤ M + 1 := by have hMM := HMM.out; omega
      have e3 : acc.length + 2 ≤ maxLen := by have := HA.out; unfold maxLen; omega
      have e4 : (acc.length + 2) * 4 ≤ 140737488355328 := by have := HA.out; omega
      have e5 : w.heap.size ≤ (wr.alloc (.cells #[.int .i32 (x : Int), .int .i32 (y : Int)] 21)).heap.size := by have := hb.out.size; simp; omega
      go_wp2_with (at_builtin; refine wpList_append_own _ rfl (.tmp 72) (.tmp 75) 22 rfl w.heap.size 21 i0 (.int .i32 0) 1 4 Tryd.underlying22 hi hz0 hz1 HZ.out rfl (by decide) u4 acc.length (i32s acc) rfl (World.ownsRow.alloc hO.out _) ⟨wr.heap.size, 0, none⟩ 2 2 [.int .i32 (x : Int), .int .i32 (y : Int)] rfl rfl (two_cells _ _ _ _) (two_one _ _ _) e3 e4 e5 ?_; intro v3 w3 hown hgrow _; have HO3 : Hid (Own21 w.heap.size w3 v3 (acc ++ [x, y])) := own21_mk hown; have HB3 : Hid (Below w.heap.size w w3) := (hb.out.alloc hb.out.size _).grown hgrow e5 (fun k hk => (World.ownsRow.lt hO.out k hk).1); clear e3 e4 e5 hown hgrow)
      go_roundw
      case rel => exact ⟨acc ++ [x, y], r, pre ++ (Hx.sp l ++ ([45] ++ Hx.sp m)), t, _, by rfl, by show _ = _; have := hns.out; simpa using this, by show _ = _; have := HTT.out; simpa using this, HS, by show _ = _; have := hpl.out; have := HLL.out; have := HKK.out; simp [Hx.sp_len]; omega, HO3, HB3⟩
      case measure => simp [intOf]; omega
end Go.Proofs.Qxb6003389aDoor
