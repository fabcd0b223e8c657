import Derived.Test.Qxb6003389aDoorFmtA
import Derived.ArgAppend
import Derived.Lib.AppendIntMem
import Derived.Laws.BitsLemmas
import Derived.Lib.BufferWrite
namespace Go.Proofs.Qxb6003389aDoor
open Go.RowKit

theorem info5 : (Tryd.prog.info? 5).map (fun i => (i.zero, i.size, i.bytes)) = some (some (.int .u8 0), 1, 1) := by kernel_rfl

theorem own_below {w w' : World} {B e size n : Nat} {v : Value} {xs : List Value} (h : w.ownsRow B e size v n xs) (hb : Below w.heap.size w w') : w'.ownsRow B e size v n xs := by
  refine ⟨h.1, ?_⟩
  rcases h.2 with hn | ⟨g, cap, cur, rfl, hg, hgg, rest⟩
  · exact .inl hn
  · exact .inr ⟨g, cap, cur, rfl, hg, by rw [hb.block g (Array.getElem?_eq_some_iff.1 hgg).1]; exact hgg, rest⟩

/-- The array's cells as far as the loop has come. -/
def arr (l : List UInt8) : List Value := List.replicate (65 - l.length) (.int .u8 0) ++ Lib.byteCells l
theorem arr_len (l : List UInt8) (h : l.length ≤ 65) : (arr l).length = 65 := by simp [arr, Lib.byteCells]; omega
theorem arr_get (l : List UInt8) (j : Nat) (h : l.length + (j + 1) = 65) : (arr l)[j]? = some (.int .u8 0) := by
  unfold arr
  rw [List.getElem?_append_left (by simp; omega), List.getElem?_replicate, if_pos (by omega)]
theorem arr_set (l : List UInt8) (j : Nat) (h : l.length + (j + 1) = 65) (c : UInt8) : (arr l).set j (.int .u8 (c.toNat : Int)) = arr (c :: l) := by
  unfold arr
  have e : 65 - l.length = j + 1 := by omega
  have e2 : 65 - (c :: l).length = j := by simp; omega
  rw [e, e2, List.replicate_succ', List.append_assoc, List.set_append_right _ _ (by simp)]
  simp [Lib.byteCells]
theorem arr_drop (l : List UInt8) (j : Nat) (h : l.length + j = 65) : (arr l).drop j = Lib.byteCells l := by
  unfold arr
  have e : 65 - l.length = j := by omega
  rw [e, List.drop_left' (by simp)]

def Ap (B n : Nat) (xs : List Value) (u : Nat) (w : World) (v : Value) (w' : World) : Prop :=
  ∃ l, Hx.Num l u ∧ w'.ownsRow B 5 1 v (n + l.length) (xs ++ Lib.byteCells l) ∧ Below B w w'

def row92 (w : World) (g : Nat) (l : List UInt8) : Prop := w.ownsRow g 92 1 (.slice (some ⟨g, 0, none⟩) 65 65) 65 (arr l)

theorem row92_new (w : World) : row92 (w.alloc (.cells Tryd.zeroCells92 92)) w.heap.size [] := by
  refine ⟨by kernel_rfl, .inr ⟨w.heap.size, 65, Tryd.zeroCells92, rfl, Nat.le_refl _, heap_alloc_new w _, Nat.le_refl _, by decide, by kernel_rfl, by kernel_rfl⟩⟩

theorem mask15 (q : Nat) (h : q ≤ 1114111) : bits BinOp.and IntKind.u64 (q : Int) 15 = ((q % 16 : Nat) : Int) := by
  have h := bits_mask .u64 63 (by decide) (fun n h₀ h₁ => by rw [IntKind.wrap_u64]; omega) 4 (by decide) (q : Int) (by omega) (by omega)
  have e : ((2 : Int) ^ 4 - 1) = 15 := by decide
  have e2 : ((2 : Int) ^ 4) = 16 := by decide
  rw [e, e2] at h
  rw [h]
  omega

abbrev digs : ByteArray := ⟨#[48, 49, 50, 51, 52, 53, 54, 55, 56, 57, 97, 98, 99, 100, 101, 102, 103, 104, 105, 106, 107, 108, 109, 110, 111, 112, 113, 114, 115, 116, 117, 118, 119, 120, 121, 122]⟩
theorem digs_at (d : Nat) (h : d < 16) (h' : d < digs.size) : digs[d]'h' = Hx.dig d := by
  have : ∀ d : Fin 16, (digs.data[d.1]?).getD 0 = Hx.dig d.1 := by decide +kernel
  have e := this ⟨d, h⟩
  rw [Array.getElem?_eq_getElem (by exact h')] at e
  exact e

theorem arrLen92 : Tryd.prog.arrayLen 92 = 65 := by kernel_rfl
theorem under92 : Tryd.prog.underlying 92 = some (.array (Tryd.prog.arrayLen 92) (Tryd.prog.elem 92)) := by kernel_rfl
theorem slice92 (g k : Nat) (h : k < 65) (W : World) : (Instr.sliceAt 92 (.pointer (some ⟨g, 0, none⟩)) (some (.int .i64 (k : Int))) none none).run Tryd.prog W = .ok (.slice (some ⟨g, k, none⟩) (65 - k) (65 - k)) W := by
  rw [run_sliceAt_array_l W 92 ⟨g, 0, none⟩ under92 .i64 (k : Int) (by omega) (by rw [arrLen92]; omega)]
  rw [arrLen92]
  have e : Tryd.prog.elem 92 = 5 := by kernel_rfl
  have hne : ¬ (65 = k) := by omega
  rw [e]
  go_simp

theorem row92_cells {w : World} {g k : Nat} {l : List UInt8} (h : row92 w g l) (hk : l.length + k = 65) : ∀ j u, (Lib.byteCells l)[j]? = some u → w.cell? ((⟨g, k, none⟩ : Addr).add j) = some u := by
  intro j u hj
  have hjl : j < l.length := by
    have h5 := (List.getElem?_eq_some_iff.1 hj).1
    rwa [Lib.byteCells_length] at h5
  rw [Lib.add_plain, World.ownsRow.cellAt h (k + j) (by omega), ← hj, ← arr_drop l k hk, List.getElem?_drop]

set_option maxHeartbeats 2000000 in
set_option maxRecDepth 5000 in
theorem fmt_any (u : Nat) (hu : u ≤ 1114111) (B n : Nat) (xs : List Value) (v : Value) (w : World) (hB : 5 < B) (hw : B ≤ w.heap.size) (hn : n ≤ 2000000) (hd : Hid (Deb w)) (ho : Hid (w.ownsRow B 5 1 v n xs)) :
    Calls Tryd.prog 71 #[v, .int .u64 u, .int .i64 16, .bool false, .bool true] w fun e w' => ∃ v', e = .returned (.tuple #[v', .string ⟨#[]⟩]) ∧ Ap B n xs u w v' w' := by
  obtain ⟨w1, hw1⟩ : ∃ w1, w1 = w.alloc (.cells Tryd.zeroCells92 92) := ⟨_, rfl⟩
  have HB1 : Hid (Below w.heap.size w w1) := by rw [hw1]; exact (Below.refl _ _).alloc (Nat.le_refl _) _
  have HA1 : Hid (row92 w1 w.heap.size []) := by rw [hw1]; exact row92_new w
  have HD1 : Hid (Deb w1) := hd.out.below HB1.out (by omega)
  go_enter Tryd.func71, Tryd.ntmps71
  go_wp2_with fail
  rw [← hw1]
  clear hw1
  refine (pow2_16 _).mono ?_
  rintro e w1 ⟨rfl, rfl⟩
  go_wp2_with fail
  refine (tz_16 _ HD1.out).mono ?_
  rintro e w1 ⟨rfl, rfl⟩
  go_wp2_with fail
  go_loopw [1, 13] (fun y z wr => ∃ (q j : Nat) (l : List UInt8), y = .int .u64 q ∧ z = .int .i64 j ∧ l.length + j = 65 ∧ Hid (Hx.Part u q l) ∧ Hid (row92 wr w.heap.size l) ∧ Hid (Below w.heap.size w wr)) (fun y _ _ => (intOf y).toNat)
  case atStart => exact ⟨u, 65, [], rfl, rfl, rfl, Hx.Part.start u, HA1, HB1⟩
  case round =>
    obtain ⟨q, j, l, rfl, rfl, hj, hp, ha, hb⟩ := hrel
    have h5 := hp.out.five hu
    have hq := hp.out.le
    obtain ⟨k, rfl⟩ : ∃ k, j = k + 1 := ⟨j - 1, by omega⟩
    have hc0 : wr.cell? ⟨w.heap.size, k, none⟩ = some (.int .u8 0) := by rw [ha.out.cellAt k (by omega)]; exact arr_get l k hj
    have hfz : wr.frozen? ⟨w.heap.size, k, none⟩ = false := ha.out.frozenAt k
    by_cases h16 : 16 ≤ q
    · have hm := mask15 q (by omega)
      have HA' : Hid (row92 (wr.setCell ⟨w.heap.size, k, none⟩ (.int .u8 ((Hx.dig (q % 16)).toNat : Int))) w.heap.size (Hx.dig (q % 16) :: l)) := by
        unfold row92; rw [← arr_set l k hj]; exact (ha.out.stored k _).1
      have HB' : Hid (Below w.heap.size w (wr.setCell ⟨w.heap.size, k, none⟩ (.int .u8 ((Hx.dig (q % 16)).toNat : Int)))) := hb.out.setCell (Nat.le_refl _) _
      go_wp2_with fail
      refine ⟨⟨q / 16, k, Hx.dig (q % 16) :: l, by simp, rfl, by simp; omega, hp.out.step h16, ?_, ?_⟩, by simp [intOf]; omega⟩
      · have := digs_at (q % 16) (by omega) (by show _ < 36; omega)
        exact this ▸ HA'
      · have := digs_at (q % 16) (by omega) (by show _ < 36; omega)
        exact this ▸ HB'
    · have hk : q < digs.size := by show _ < 36; omega
      have ed := digs_at q (by omega) hk
      have HA' : Hid (row92 (wr.setCell ⟨w.heap.size, k, none⟩ (.int .u8 ((digs[q]'hk).toNat : Int))) w.heap.size (Hx.dig q :: l)) := by
        rw [ed]; unfold row92; rw [← arr_set l k hj]; exact (ha.out.stored k _).1
      have HB' : Hid (Below w.heap.size w (wr.setCell ⟨w.heap.size, k, none⟩ (.int .u8 ((digs[q]'hk).toNat : Int)))) := hb.out.setCell (Nat.le_refl _) _
      have hsl := slice92 w.heap.size k (by omega)
      have HN : Hid (Hx.Num (Hx.dig q :: l) u) := hp.out.done (by omega) hu
      obtain ⟨L, hL⟩ : ∃ L, L = Hx.dig q :: l := ⟨_, rfl⟩
      have hLk : L.length = 65 - k := by rw [hL]; simp; omega
      rw [← hL] at HA' HN
      have e1 : (Lib.byteCells L).length = (65 - k) * 1 := by rw [Lib.byteCells_length]; omega
      have e2 := row92_cells HA'.out (k := k) (by omega)
      have e3 : n + (65 - k) ≤ maxLen := by unfold maxLen; omega
      have e4 : (n + (65 - k)) * 1 ≤ 140737488355328 := by omega
      have e5 := Nat.le_trans hw HB'.out.size
      have e6 := own_below ho.out HB'.out
      have HL : Hid (L.length = 65 - k) := hLk
      clear ha hb hp hL ed hLk
      obtain ⟨i0, hi, hz0, hz1, hz2⟩ := info_parts info5
      go_wp2_with (at_builtin; refine wpList_append_own _ rfl (.tmp 95) (.tmp 97) 23 rfl B 5 i0 (.int .u8 0) 1 1 Tryd.underlying23 hi hz0 hz1 hz2 rfl (by decide) v n xs rfl e6 ⟨w.heap.size, k, none⟩ (65 - k) (65 - k) (Lib.byteCells L) rfl e1 e2 (Lib.byteCells_one L) e3 e4 e5 ?_; intro v' w2 hown' hgrow _; have HO2 : Hid _ := hown'; have HB2 : Hid (Below B w w2) := (HB'.out.mono hw).grown hgrow e5 (fun k hk => (e6.lt k hk).1); clear e1 e2 e3 e4 e5 e6 hown' hgrow)
      go_ret2
      refine ⟨v', rfl, L, HN.out, ?_, HB2.out⟩
      rw [HL.out]; exact HO2.out
end Go.Proofs.Qxb6003389aDoor
