import Derived.Test.Qxb6003389aDoorApD
namespace Go.Proofs.Qxb6003389aDoor
open Go.RowKit

set_option maxHeartbeats 1000000 in
theorem bytes_any (a a2 : Option Addr) (n cap n2 cap2 : Nat) (w : World) (hn : n ≤ maxLen) (hn2 : n2 ≤ maxLen) :
    Calls Tryd.prog 8 #[.slice a n cap, .slice a2 n2 cap2] w fun e w' => ∃ b, e = .returned (.bool b) ∧ w' = w ∧ (n ≤ 65536 → n2 ≤ 65536 → b = true) := by
  unfold maxLen at hn hn2
  by_cases h1 : n ≤ 1048576
  · by_cases h2 : n2 ≤ 1048576
    · by_cases h3 : n + n2 ≤ 1048576
      · go_enter Tryd.func8, Tryd.ntmps8
        go_wp2
        go_ret
        exact ⟨true, rfl, rfl, fun _ _ => rfl⟩
      · go_enter Tryd.func8, Tryd.ntmps8
        go_wp2
        go_ret
        exact ⟨false, rfl, rfl, fun _ _ => by omega⟩
    · go_enter Tryd.func8, Tryd.ntmps8
      go_wp2
      go_ret
      exact ⟨false, rfl, rfl, fun _ _ => by omega⟩
  · go_enter Tryd.func8, Tryd.ntmps8
    go_wp2
    go_ret
    exact ⟨false, rfl, rfl, fun _ _ => by omega⟩

set_option maxHeartbeats 1000000 in
theorem zzAppend_any (a ab : Option Addr) (cap n n2 : Nat) (ns : List Nat) (t : List UInt8) (w : World) (hn : Hid (ns.length = n)) (hn2 : Hid (t.length = n2)) (hne : ns ≠ []) (hm : n ≤ 65536) (ht : n2 ≤ 65536) (hok : Hid (Ok ns)) (hr : Hid (Nums w a ns)) (h5 : 5 < w.heap.size) (hd : Hid (Deb w))
    (ho : Hid (∃ B, Own5 B w (.slice ab n2 n2) t)) :
    Calls Tryd.prog 12 #[.slice a n cap, .slice ab n2 n2] w fun e w' => Spelt w.heap.size t ns w e w' := by
  obtain rfl : ns.length = n := hn.out
  obtain rfl : t.length = n2 := hn2.out
  have HA : Hid (Calls Tryd.prog 30 #[.slice a ns.length cap, .slice ab t.length t.length] w fun e w' => Spelt w.heap.size t ns w e w') := appendTo_any a ab cap ns t w hne hm ht hok hr h5 hd ho
  go_enter Tryd.func12, Tryd.ntmps12
  go_wp2_with fail
  refine HA.out.mono ?_
  rintro e w1 ⟨v', rfl, hA⟩
  have HX : Hid _ := hA
  clear hA
  go_wp2_with fail
  go_ret
  exact ⟨v', rfl, HX.out⟩

def every : ByteArray := ⟨#[91, 94, 92, 120, 48, 48, 45, 92, 120, 123, 49, 48, 70, 70, 70, 70, 125, 93]⟩
/-- What appendTo hands back of an empty set. -/
def SpeltNone (B : Nat) (t : List UInt8) (b : Value) (w : World) (e : Ending) (w' : World) : Prop :=
  ∃ v', e = .returned v' ∧ Own5 B w' v' (t ++ every.data.toList) ∧ w.grownBy w' b.ownBlock

set_option maxHeartbeats 1000000 in
theorem appendToNone_any (a : Option Addr) (cap B : Nat) (t : List UInt8) (b : Value) (w : World) (ht : t.length ≤ 65536) (hB : B ≤ w.heap.size) (ho : Hid (Own5 B w b t)) :
    Calls Tryd.prog 30 #[.slice a 0 cap, b] w fun e w' => SpeltNone B t b w e w' := by
  obtain ⟨i0, hi, hz0, hz1, hz2⟩ := info_parts info5
  have e3 : t.length + every.size ≤ maxLen := by show _ + 18 ≤ maxLen; unfold maxLen; omega
  have e4 : t.length + every.size ≤ 140737488355328 := by show _ + 18 ≤ _; omega
  go_enter Tryd.func30, Tryd.ntmps30
  go_wp2_with (at_builtin; refine Lib.wpList_append_own_string _ rfl (.tmp 9) (.const (.string every)) 23 9 rfl B 5 i0 Tryd.underlying23 Tryd.underlying9 hi hz0 hz1 hz2 b t.length (Lib.byteCells t) rfl ho.out every rfl e3 e4 hB ?_; intro v1 w1 hown hgrow _; have HO1 : Hid (Own5 B w1 v1 (t ++ every.data.toList)) := own5_mk hown rfl; have HG : Hid (w.grownBy w1 b.ownBlock) := hgrow; clear e3 e4 hown hgrow)
  go_ret
  exact ⟨v1, rfl, HO1.out, HG.out⟩

set_option maxHeartbeats 1000000 in
theorem zzAppendNone_any (a : Option Addr) (cap B : Nat) (t : List UInt8) (b : Value) (w : World) (ht : t.length ≤ 65536) (hB : B ≤ w.heap.size) (ho : Hid (Own5 B w b t)) :
    Calls Tryd.prog 12 #[.slice a 0 cap, b] w fun e w' => SpeltNone B t b w e w' := by
  have HA : Hid (Calls Tryd.prog 30 #[.slice a 0 cap, b] w fun e w' => SpeltNone B t b w e w') := appendToNone_any a cap B t b w ht hB ho
  go_enter Tryd.func12, Tryd.ntmps12
  go_wp2_with fail
  refine HA.out.mono ?_
  rintro e w1 ⟨v', rfl, hA⟩
  have HX : Hid _ := hA
  clear hA
  go_wp2_with fail
  go_ret
  exact ⟨v', rfl, HX.out⟩

theorem own5_slice {B : Nat} {w : World} {v : Value} {T : List UInt8} (h : Own5 B w v T) (hne : 0 < T.length) : ∃ G c, v = .slice (some ⟨G, 0, none⟩) T.length c ∧ T.length ≤ c ∧ Lies w G 0 T := by
  rcases h.2 with ⟨rfl, h0⟩ | ⟨g, cap, cur, rfl, h1, h2, h3, h4, h5⟩
  · omega
  · refine ⟨g, cap, rfl, h3, fun i c hi => ?_⟩
    have hil := (List.getElem?_eq_some_iff.1 hi).1
    rw [Nat.zero_add, World.ownsRow.cellAt h i (by omega), Lib.byteCells, List.getElem?_map, hi]
    rfl
theorem own21_slice {B : Nat} {w : World} {v : Value} {ns : List Nat} (h : Own21 B w v ns) (hne : 0 < ns.length) : ∃ a c, v = .slice a ns.length c ∧ Row .i32 w a (ns.map fun (n : Nat) => (n : Int)) := by
  rcases h.2 with ⟨rfl, h0⟩ | ⟨g, cap, cur, rfl, h1, h2, h3, h4, h5⟩
  · omega
  · refine ⟨_, cap, rfl, .inr ⟨g, 0, rfl, fun i hi => ?_⟩⟩
    have hil : i < ns.length := by simpa using hi
    rw [Nat.zero_add, World.ownsRow.cellAt h i (by omega), i32s, List.getElem?_map, List.getElem?_eq_getElem hil]
    simp [hil]
theorem Row.ofOwn {k : IntKind} {w : World} {base : Nat} {e : TypeId} {a : Option Addr} {n cap : Nat} {zs : List Int} (h : w.ownsRow base e 1 (.slice a n cap) n (zs.map (Value.int k))) : Row k w a zs := by
  have hl : zs.length = n := by have := h.1; simpa using this
  rcases h.2 with ⟨h1, h0⟩ | ⟨g, cap', cur, h1, _⟩
  · exact .inl (List.length_eq_zero_iff.1 (by omega))
  · cases h1
    refine .inr ⟨g, 0, rfl, fun i hi => ?_⟩
    rw [Nat.zero_add, h.cellAt i (by omega), List.getElem?_map, List.getElem?_eq_getElem hi]
    rfl
theorem Row.nums {w : World} {a : Option Addr} {ns : List Nat} (h : Row .i32 w a (ns.map fun (n : Nat) => (n : Int))) : Nums w a ns := by
  rcases h with h | ⟨b, off, rfl, hc⟩
  · exact .inl (by simpa using h)
  · refine .inr ⟨b, off, rfl, fun i hi => ?_⟩
    have := hc i (by simpa using hi)
    simpa [hi] using this
theorem own5_of {B : Nat} {w : World} {v : Value} {n : Nat} {t : List UInt8} (h : w.ownsRow B 5 1 v n ((t.map fun c => (c.toNat : Int)).map (Value.int .u8))) (hn : t.length = n) : Own5 B w v t := by
  unfold Own5 Lib.byteCells
  rw [hn]
  rw [List.map_map] at h
  exact h

/-- The pairs are in range: each number is one of 0 .. MaxRune. -/
theorem Pr.nums {zs : List Int} (he : zs.length % 2 = 0) (h : Pr zs (zs.length / 2)) : ∃ ns : List Nat, zs = (ns.map fun (n : Nat) => (n : Int)) ∧ Ok ns := by
  have hall : ∀ z ∈ zs, 0 ≤ z ∧ z ≤ 1114111 := by
    intro z hz
    obtain ⟨i, hi, rfl⟩ := List.getElem_of_mem hz
    have hp := h (i / 2) (by omega)
    by_cases h2 : i % 2 = 0
    · have e : 2 * (i / 2) = i := by omega
      rw [e, List.getElem?_eq_getElem hi] at hp
      simp only [Option.getD_some] at hp
      omega
    · have e : 2 * (i / 2) + 1 = i := by omega
      rw [e, List.getElem?_eq_getElem hi] at hp
      simp only [Option.getD_some] at hp
      omega
  refine ⟨zs.map Int.toNat, ?_, by simpa using he, ?_⟩
  · rw [List.map_map]
    conv => lhs; rw [← List.map_id zs]
    refine List.map_congr_left fun z hz => ?_
    have := hall z hz
    show z = ((z.toNat : Nat) : Int)
    omega
  · intro x hx
    obtain ⟨z, hz, rfl⟩ := List.mem_map.1 hx
    have := hall z hz
    omega
end Go.Proofs.Qxb6003389aDoor
