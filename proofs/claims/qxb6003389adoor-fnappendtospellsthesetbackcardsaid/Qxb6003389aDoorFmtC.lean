import Derived.Test.Qxb6003389aDoorFmtB
namespace Go.Proofs.Qxb6003389aDoor
open Go.RowKit

/-- A row of bytes that the call owns. -/
def Own5 (B : Nat) (w : World) (v : Value) (t : List UInt8) : Prop := w.ownsRow B 5 1 v t.length (Lib.byteCells t)
/-- What an append of a numeral hands back. -/
def Hands (B : Nat) (t : List UInt8) (u : Nat) (f : List UInt8 → List UInt8) (w : World) (e : Ending) (w' : World) : Prop :=
  ∃ v', e = .returned v' ∧ ∃ l, Hx.Num l u ∧ Own5 B w' v' (t ++ f l) ∧ Below B w w'

theorem own5_mk {B : Nat} {w : World} {v : Value} {t l : List UInt8} {n : Nat} (h : w.ownsRow B 5 1 v n (Lib.byteCells t ++ Lib.byteCells l)) (hn : n = t.length + l.length) : Own5 B w v (t ++ l) := by
  unfold Own5
  rw [List.length_append, Lib.byteCells_append, ← hn]
  exact h

set_option maxHeartbeats 1000000 in
theorem appendUint_any (u : Nat) (hu : u ≤ 1114111) (B : Nat) (t : List UInt8) (v : Value) (w : World) (hB : 5 < B) (hw : B ≤ w.heap.size) (hn : t.length ≤ 2000000) (hd : Hid (Deb w)) (ho : Hid (Own5 B w v t)) :
    Calls Tryd.prog 60 #[v, .int .u64 u, .int .i64 16] w fun e w' => Hands B t u id w e w' := by
  go_enter Tryd.func60, Tryd.ntmps60
  go_wp2_with fail
  refine (fmt_any u hu B t.length (Lib.byteCells t) v w hB hw hn hd ho).mono ?_
  rintro e w1 ⟨v', rfl, hA⟩
  have HA : Hid _ := hA
  clear hA
  go_wp2_with fail
  go_ret
  obtain ⟨l, h1, h2, h3⟩ := HA.out
  exact ⟨v', rfl, l, h1, own5_mk h2 rfl, h3⟩

set_option maxHeartbeats 1000000 in
theorem appendInt48_any (u : Nat) (hu : u ≤ 1114111) (B : Nat) (t : List UInt8) (v : Value) (w : World) (hB : 5 < B) (hw : B ≤ w.heap.size) (hn : t.length ≤ 2000000) (hd : Hid (Deb w)) (ho : Hid (Own5 B w v t)) :
    Calls Tryd.prog 48 #[v, .int .i64 u, .int .i64 16] w fun e w' => Hands B t u id w e w' := by
  go_enter Tryd.func48, Tryd.ntmps48
  go_wp2_with fail
  refine (appendUint_any u hu B t v w hB hw hn hd ho).mono ?_
  rintro e w1 ⟨v', rfl, hA⟩
  have HA : Hid _ := hA
  clear hA
  go_wp2_with fail
  go_ret
  exact ⟨v', rfl, HA.out⟩

set_option maxHeartbeats 1000000 in
theorem appendInt_any (u : Nat) (hu : u ≤ 1114111) (B : Nat) (t : List UInt8) (v : Value) (w : World) (hB : 5 < B) (hw : B ≤ w.heap.size) (hn : t.length ≤ 2000000) (hd : Hid (Deb w)) (ho : Hid (Own5 B w v t)) :
    Calls Tryd.prog 43 #[v, .int .i64 u, .int .i64 16] w fun e w' => Hands B t u id w e w' := by
  go_enter Tryd.func43, Tryd.ntmps43
  go_wp2_with fail
  refine (appendInt48_any u hu B t v w hB hw hn hd ho).mono ?_
  rintro e w1 ⟨v', rfl, hA⟩
  have HA : Hid _ := hA
  clear hA
  go_wp2_with fail
  go_ret
  exact ⟨v', rfl, HA.out⟩

theorem one_cell_new (w : World) (c : Value) (T : TypeId) : ∀ j u, ([c] : List Value)[j]? = some u → (w.alloc (.cells #[c] T)).cell? ((⟨w.heap.size, 0, none⟩ : Addr).add j) = some u := by
  intro j u hj
  match j with
  | 0 => simpa [Lib.add_plain] using hj
  | j + 1 => simp at hj
theorem one_one (k : IntKind) (z : Int) : ∀ u ∈ [Value.int k z], u.oneCell' = true := by simp [Value.oneCell']

set_option maxHeartbeats 1000000 in
theorem appendRune_any (u : Nat) (hu : u ≤ 1114111) (B : Nat) (t : List UInt8) (v : Value) (w : World) (hB : 5 < B) (hw : B ≤ w.heap.size) (hn : t.length ≤ 1900000) (hd : Hid (Deb w)) (ho : Hid (Own5 B w v t)) :
    Calls Tryd.prog 37 #[v, .int .i32 u] w fun e w' => Hands B t u Hx.sp w e w' := by
  obtain ⟨i0, hi, hz0, hz1, hz2⟩ := info_parts info5
  have e3 : t.length + (⟨#[92, 120, 123]⟩ : ByteArray).size ≤ maxLen := by show _ + 3 ≤ maxLen; unfold maxLen; omega
  have e4 : t.length + (⟨#[92, 120, 123]⟩ : ByteArray).size ≤ 140737488355328 := by show _ + 3 ≤ _; omega
  have HZ : Hid (i0.bytes = 1) := hz2
  clear hz2
  go_enter Tryd.func37, Tryd.ntmps37
  go_wp2_with (at_builtin; refine Lib.wpList_append_own_string _ rfl (.tmp 5) (.const (.string ⟨#[92, 120, 123]⟩)) 23 9 rfl B 5 i0 Tryd.underlying23 Tryd.underlying9 hi hz0 hz1 HZ.out v t.length (Lib.byteCells t) rfl ho.out ⟨#[92, 120, 123]⟩ rfl e3 e4 hw ?_; intro v1 w1 hown hgrow _; have HO1 : Hid (Own5 B w1 v1 (t ++ [92, 120, 123])) := own5_mk hown rfl; have HB1 : Hid (Below B w w1) := (Below.refl _ _).grown hgrow hw (fun k hk => (ho.out.lt k hk).1); clear e3 e4 hown hgrow)
  have HW1 : Hid (B ≤ w1.heap.size) := Nat.le_trans hw HB1.out.size
  refine (appendInt_any u hu B (t ++ [92, 120, 123]) v1 w1 hB HW1.out (by simp; omega) (hd.out.below HB1.out hB) HO1).mono ?_
  rintro e w2 ⟨v2, rfl, l, hl, ho2, hb2⟩
  have HL : Hid (Hx.Num l u) := hl
  have hl6 := hl.six
  have HO2 : Hid _ := ho2
  have HB2 : Hid _ := hb2
  have e3 : (t ++ [92, 120, 123] ++ l).length + 1 ≤ maxLen := by unfold maxLen; simp; omega
  have e4 : ((t ++ [92, 120, 123] ++ l).length + 1) * 1 ≤ 140737488355328 := by simp; omega
  have HW2 : Hid (B ≤ w2.heap.size) := Nat.le_trans HW1.out HB2.out.size
  have e5 : B ≤ (w2.alloc (.cells #[.int .u8 125] 5)).heap.size := by have := HW2.out; simp; omega
  clear hl ho2 hb2
  go_wp2_with (at_builtin; refine wpList_append_own _ rfl (.tmp 9) (.tmp 10) 23 rfl B 5 i0 (.int .u8 0) 1 1 Tryd.underlying23 hi hz0 hz1 HZ.out rfl (by decide) v2 (t ++ [92, 120, 123] ++ l).length (Lib.byteCells (t ++ [92, 120, 123] ++ l)) rfl (World.ownsRow.alloc HO2.out _) ⟨w2.heap.size, 0, none⟩ 1 1 [.int .u8 125] rfl rfl (one_cell_new _ _ _) (one_one _ _) e3 e4 e5 ?_; intro v3 w3 hown hgrow _; have HO3 : Hid (Own5 B w3 v3 (t ++ [92, 120, 123] ++ l ++ [125])) := own5_mk hown rfl; have HB3 : Hid (Below B w w3) := (((HB1.out.trans HB2.out).alloc HW2.out _).grown hgrow e5 (fun k hk => (World.ownsRow.lt HO2.out k hk).1)); clear e3 e4 hown hgrow)
  go_ret
  refine ⟨v3, rfl, l, HL.out, ?_, HB3.out⟩
  have := HO3.out
  simpa [Hx.sp] using this
end Go.Proofs.Qxb6003389aDoor
