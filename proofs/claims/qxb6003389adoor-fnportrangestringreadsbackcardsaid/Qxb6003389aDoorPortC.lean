import Derived.Test.Qxb6003389aDoorPortB
import Derived.Test.Qxb6003389aDoorShelf
import Derived.Deep.RegionWith
import Derived.Lib.AppendIntMem
namespace Go.Proofs.Qxb6003389aDoor
open Go.RowKit

def powTab : String := Rows.fnPortRangeStringReadsBackRow.named.getD 0 ""
def Tab (w : World) : Prop := Lib.TabIs Tryd.prog w powTab .u64 Lib.pow10Tab
theorem Tab.below {w w' : World} (h : Tab w) (hb : Below w.heap.size w w') : Tab w' := Lib.tabBelow_of_tabIs h w' hb

theorem below_grow (w : World) (k : Nat) (os : Array Obj) : Below w.heap.size w (Sort.grow (w.drewN k) os) :=
  ⟨rfl, rfl, rfl, by simp [Sort.grow], fun i hi => by simp [Sort.grow, Array.getElem?_append, hi]⟩

def Text (n : Nat) : ByteArray := ⟨(Lib.itoa (n : Int)).toArray⟩

theorem itoa_any (n : Nat) (hn : n ≤ 65535) (w : World) (hT : Hid (Tab w)) :
    Calls Tryd.prog 42 #[.int .i64 (n : Int)] w fun e w' => e = .returned (.string (Text n)) ∧ Below w.heap.size w w' := by
  refine (Tryd.strconv_Itoa n (by omega) (by omega) w hT.out).mono ?_
  rintro e w' ⟨rfl, k, os, rfl⟩
  exact ⟨rfl, below_grow w k os⟩

set_option maxHeartbeats 1000000 in
theorem string_all (w : World) :
    Calls Tryd.prog 35 #[.agg #[.int .i64 0, .int .i64 65535]] w fun e w' => e = .returned (.string ⟨#[]⟩) ∧ Below w.heap.size w w' := by
  go_enter Tryd.func35, Tryd.ntmps35
  go_wp2
  go_ret
  exact ⟨rfl, (Below.refl _ _).alloc (Nat.le_refl _) _⟩

set_option maxHeartbeats 1000000 in
theorem string_one (n : Nat) (hn : n ≤ 65535) (w : World) (hT : Hid (Tab w)) :
    Calls Tryd.prog 35 #[.agg #[.int .i64 (n : Int), .int .i64 (n : Int)]] w fun e w' => e = .returned (.string (Text n)) ∧ Below w.heap.size w w' := by
  have e0 : ((n : Int) == 0 && (n : Int) == 65535) = false := by
    rw [Bool.and_eq_false_iff]
    by_cases h : n = 0
    · exact .inr (beq_eq_false_iff_ne.2 (by omega))
    · exact .inl (beq_eq_false_iff_ne.2 (by omega))
  have HT1 : Hid (Tab (w.alloc (.cells #[.int .i64 (n : Int), .int .i64 (n : Int)] 51))) := hT.out.below ((Below.refl _ _).alloc (Nat.le_refl _) _)
  by_cases h0 : n = 0
  · subst h0
    clear e0
    go_enter Tryd.func35, Tryd.ntmps35
    go_wp2_with fail
    refine (itoa_any 0 (by omega) _ HT1).mono ?_
    rintro e w1 ⟨rfl, hb⟩
    go_wp2_with fail
    go_ret
    exact ⟨rfl, ((Below.refl _ _).alloc (Nat.le_refl _) _).trans (hb.mono (by simp))⟩
  · have e1 : ((n : Int) == 0) = false := beq_eq_false_iff_ne.2 (by omega)
    clear e0 h0
    go_enter Tryd.func35, Tryd.ntmps35
    go_wp2_with fail
    refine (itoa_any n hn _ HT1).mono ?_
    rintro e w1 ⟨rfl, hb⟩
    go_wp2_with fail
    go_ret
    exact ⟨rfl, ((Below.refl _ _).alloc (Nat.le_refl _) _).trans (hb.mono (by simp))⟩

def dash : ByteArray := ⟨#[45]⟩

theorem text_size (n : Nat) (hn : n ≤ 65535) : (Text n).size ≤ 5 := by
  have := (Num.port_itoa n hn).2.1
  show (Lib.itoa (n : Int)).toArray.size ≤ 5
  simpa using this

set_option maxHeartbeats 1000000 in
theorem string_upto (hi : Nat) (hn : hi ≤ 65534) (h1 : 1 ≤ hi) (w : World) (hT : Hid (Tab w)) :
    Calls Tryd.prog 35 #[.agg #[.int .i64 0, .int .i64 (hi : Int)]] w fun e w' => e = .returned (.string (dash ++ Text hi)) ∧ Below w.heap.size w w' := by
  have e1 : ((hi : Int) == 65535) = false := beq_eq_false_iff_ne.2 (by omega)
  have e2 : ((0 : Int) == (hi : Int)) = false := beq_eq_false_iff_ne.2 (by omega)
  have hs := text_size hi (by omega)
  have HT1 : Hid (Tab (w.alloc (.cells #[.int .i64 0, .int .i64 (hi : Int)] 51))) := hT.out.below ((Below.refl _ _).alloc (Nat.le_refl _) _)
  go_enter Tryd.func35, Tryd.ntmps35
  go_wp2_with fail
  refine (itoa_any hi (by omega) _ HT1).mono ?_
  rintro e w1 ⟨rfl, hb⟩
  go_wp2_with fail
  go_ret
  exact ⟨rfl, ((Below.refl _ _).alloc (Nat.le_refl _) _).trans (hb.mono (by simp))⟩

set_option maxHeartbeats 1000000 in
theorem string_from (lo : Nat) (hn : lo ≤ 65534) (h1 : 1 ≤ lo) (w : World) (hT : Hid (Tab w)) :
    Calls Tryd.prog 35 #[.agg #[.int .i64 (lo : Int), .int .i64 65535]] w fun e w' => e = .returned (.string (Text lo ++ dash)) ∧ Below w.heap.size w w' := by
  have e1 : ((lo : Int) == 65535) = false := beq_eq_false_iff_ne.2 (by omega)
  have e2 : ((lo : Int) == 0) = false := beq_eq_false_iff_ne.2 (by omega)
  have hs := text_size lo (by omega)
  have HT1 : Hid (Tab (w.alloc (.cells #[.int .i64 (lo : Int), .int .i64 65535] 51))) := hT.out.below ((Below.refl _ _).alloc (Nat.le_refl _) _)
  go_enter Tryd.func35, Tryd.ntmps35
  go_wp2_with fail
  refine (itoa_any lo (by omega) _ HT1).mono ?_
  rintro e w1 ⟨rfl, hb⟩
  go_wp2_with fail
  go_ret
  exact ⟨rfl, ((Below.refl _ _).alloc (Nat.le_refl _) _).trans (hb.mono (by simp))⟩

theorem drewBelow {B : Nat} {w w2 : World} (h : Below w.drew.heap.size w.drew w2) (hB : B ≤ w.heap.size) : Below B w w2 := ⟨h.os, h.tape, h.output, h.size, fun k hk => h.block k (Nat.lt_of_lt_of_le hk hB)⟩

set_option maxHeartbeats 2000000 in
theorem string_both (lo hi : Nat) (hn : hi ≤ 65534) (h1 : 1 ≤ lo) (hlt : lo < hi) (w : World) (hT : Hid (Tab w)) :
    Calls Tryd.prog 35 #[.agg #[.int .i64 (lo : Int), .int .i64 (hi : Int)]] w fun e w' => e = .returned (.string (Text lo ++ dash ++ Text hi)) ∧ Below w.heap.size w w' := by
  have e1 : ((lo : Int) == (hi : Int)) = false := beq_eq_false_iff_ne.2 (by omega)
  have e2 : ((lo : Int) == 0) = false := beq_eq_false_iff_ne.2 (by omega)
  have e3 : ((hi : Int) == 65535) = false := beq_eq_false_iff_ne.2 (by omega)
  have hs := text_size lo (by omega)
  have hs2 := text_size hi (by omega)
  have HT1 : Hid (Tab (w.alloc (.cells #[.int .i64 (lo : Int), .int .i64 (hi : Int)] 51))) := hT.out.below ((Below.refl _ _).alloc (Nat.le_refl _) _)
  go_enter Tryd.func35, Tryd.ntmps35
  go_wp2_with fail
  have HB1 : Hid (Below w.heap.size w (w.alloc (.cells #[.int .i64 (lo : Int), .int .i64 (hi : Int)] 51))) := (Below.refl _ _).alloc (Nat.le_refl _) _
  have HX : Hid (∀ w2, Below (w.heap.size + 1) (w.alloc (.cells #[.int .i64 (lo : Int), .int .i64 (hi : Int)] 51)) w2 → w2.cell? ⟨w.heap.size, 1, none⟩ = some (.int .i64 (hi : Int)) ∧ Tab w2 ∧ Below w.heap.size w w2) := by
    intro w2 hb
    refine ⟨(hb.cell (by show w.heap.size < _; omega)).trans (by simp), HT1.out.below (hb.mono (by simp)), HB1.out.trans (hb.mono (by omega))⟩
  have HTd : Hid (Tab (w.alloc (.cells #[.int .i64 (lo : Int), .int .i64 (hi : Int)] 51)).drew) := HT1.out
  go_region_with (first | (go_at_call_of 42 (Value.int IntKind.i64 (lo : Int)); refine (itoa_any lo (by omega) _ HTd).mono ?_; rintro e w2 ⟨rfl, hb⟩; have hY := HX.out w2 (drewBelow hb (by simp)); have hc2 := hY.1; have HT2 : Hid (Tab w2) := hY.2.1; have HB2 : Hid (Below w.heap.size w w2) := hY.2.2; clear hY hb) | (go_at_call_of 42 (Value.int IntKind.i64 (hi : Int)); refine (itoa_any hi (by omega) _ ?_).mono ?_; assumption; rintro e w3 ⟨rfl, hb⟩; have HB3 : Hid (Below w.heap.size w w3) := HB2.out.trans (hb.mono HB2.out.size); clear hb))
  all_goals (go_wp2; go_ret; exact ⟨rfl, HB3.out⟩)
end Go.Proofs.Qxb6003389aDoor
