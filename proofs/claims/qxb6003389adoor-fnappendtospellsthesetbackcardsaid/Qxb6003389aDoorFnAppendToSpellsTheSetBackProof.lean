/- The statement 'Rows.FnAppendToSpellsTheSetBackCardSaid' proved: the walk (Qxb6003389aDoorApF.lean), the row, then the tied card by the builder's one call. -/
import Derived.Test.Qxb6003389aDoorRows
import Derived.Test.Qxb6003389aDoorTie
import Derived.Test.Qxb6003389aDoorCards
import Derived.Test.Qxb6003389aDoorApF
import Derived.ProofKit
import Derived.LaidMore
import Derived.OpenShut
import Derived.ChangeOld
import Derived.Below
import Derived.Lib.TrailingZeros
import Derived.Stop.Joined
import Derived.Stop.LaidErr
import Derived.SevenTiedAt
namespace Go.Proofs.Qxb6003389aDoor.fnAppendToSpellsTheSetBack
open Go.ChangeShapes Go.WideShapes Go.ChangeAt Go.RowKit
set_option linter.unusedVariables false

theorem own : ownKnob Tryd.prog.godebug = none := by kernel_rfl
theorem laidOut : laidOutB Tryd.prog = true := by kernel_rfl
def debTab : String := Rows.fnAppendToSpellsTheSetBackRow.named.getD 2 ""
def debNums : List Int := Lib.deBruijn64tab.map fun (n : Nat) => (n : Int)
theorem gDeb : Tryd.prog.globalNamed debTab = some 5 := by kernel_rfl
theorem tDeb : (Tryd.prog.globals[5]?).map (·.type) = some 104 := by kernel_rfl

/-- The door's own heap meets the condition: three closed facts. -/
theorem door_met (os : Os) (args : Array Value) : laidMetH Tryd.prog Rows.fnAppendToSpellsTheSetBackRow.laid ((World.doorLaid Tryd.prog 4000 os).forCall (fun _ _ => 0) ⟨#[], args, []⟩).memory :=
  laidMetH_of_parts3 (fuel := 8) (laidMet_of_run' 8 (by kernel_rfl) (by kernel_rfl)) (by kernel_rfl) (by kernel_rfl)

/-- What the condition gives the walk: one cell of the de Bruijn table. -/
theorem of_laid {W : World} (h : laidMetH Tryd.prog Rows.fnAppendToSpellsTheSetBackRow.laid W) : Deb W := by
  rw [MakeChecks.laidMetH_plain _ _ _ (by kernel_rfl)] at h
  have h3 : laidMet Tryd.prog ((debTab, Lib.tabData .u8 debNums) :: Rows.fnAppendToSpellsTheSetBackRow.laid.drop 2) W := h.tail
  have h4 : Lib.TabIs Tryd.prog W debTab .u8 debNums := Lib.tabIs_of_head (n := 64) (e := 5) gDeb tDeb Tryd.underlying104 Tryd.underlying5 (by kernel_rfl) (by kernel_rfl) h3
  exact h4.cell gDeb 15 (by decide)

/-- WHAT THE WALK IS TOLD OF A SLICE OF INTEGERS THAT CAME IN: it is nil; or it leads to a row of 'cap' cells, the numbers 'zs' (the first 'len' are its elements, the rest its spare room), each fitting its kind. -/
def IsRow (k : IntKind) (w : World) (a : Option Addr) (len cap : Nat) (zs : List Int) : Prop :=
  (a = none ∧ len = 0 ∧ cap = 0 ∧ zs = []) ∨
  ∃ x, a = some x ∧ len ≤ cap ∧ cap ≤ maxLen ∧ zs.length = cap ∧ (∀ i, i < zs.length → w.cell? (x.add i) = some (.int k (zs.getD i 0))) ∧ ∀ n ∈ zs, (Lit.int k n).wf = true

/-- From the shell's reading to ours: the first 'len' numbers. -/
theorem row_of {k : IntKind} {w : World} {a : Option Addr} {len cap : Nat} {z : List Int} (h : IsRow k w a len cap z) :
    ∃ zs : List Int, zs.length = len ∧ Row k w a zs ∧ (a = none → len = 0) ∧ ∀ n ∈ zs, (Lit.int k n).wf = true := by
  rcases h with ⟨rfl, rfl, rfl, rfl⟩ | ⟨x, rfl, h1, h2, h3, hc, hw⟩
  · exact ⟨[], rfl, .inl rfl, fun _ => rfl, by simp⟩
  · refine ⟨z.take len, by rw [List.length_take]; omega, ?_, (fun h => by cases h), fun n hn => hw n (List.mem_of_mem_take hn)⟩
    by_cases hz : len = 0
    · subst hz; exact .inl rfl
    · obtain ⟨b, off, spot⟩ := x
      have hspot : spot = none := by simpa [Addr.add] using World.cell?_spot (hc 0 (by omega))
      subst hspot
      refine .inr ⟨b, off, rfl, fun i hi => ?_⟩
      have hi' : i < len := by simp at hi; omega
      have := hc i (by omega)
      rw [Lib.add_plain] at this
      rw [this, List.getElem?_take, if_pos hi', List.getD_eq_getElem?_getD]
theorem len_of {k : IntKind} {w : World} {a : Option Addr} {len cap : Nat} {z : List Int} (h : IsRow k w a len cap z) : len ≤ maxLen := by
  rcases h with ⟨-, h, -⟩ | ⟨_, -, h1, h2, -⟩
  · rw [h]; exact Nat.zero_le _
  · omega
theorem octs_of {ys : List Int} (h : ∀ n ∈ ys, (Lit.int .u8 n).wf = true) : ∃ t : List UInt8, ys = octs t := by
  refine ⟨ys.map fun n => UInt8.ofNat n.toNat, ?_⟩
  unfold octs
  rw [List.map_map]
  conv => lhs; rw [← List.map_id ys]
  refine List.map_congr_left fun z hz => ?_
  have h1 := h z hz
  have h2 : 0 ≤ z ∧ z < 256 := by
    have e : IntKind.u8.min ≤ z ∧ z ≤ IntKind.u8.max := by simpa [Lit.wf] using h1
    have e1 : IntKind.u8.min = 0 := by decide
    have e2 : IntKind.u8.max = 255 := by decide
    omega
  show z = (((UInt8.ofNat z.toNat).toNat : Nat) : Int)
  rw [UInt8.toNat_ofNat']
  omega

theorem walk (a0 : Option Addr) (len0 cap0 : Nat) (z0 : List Int) (a1 : Option Addr) (len1 cap1 : Nat) (z1 : List Int) (w : World) (w0 : IsRow .i32 w a0 len0 cap0 z0) (w1 : IsRow .u8 w a1 len1 cap1 z1) (hD : Deb w) :
    Calls Tryd.prog 3 #[.slice a0 len0 cap0, .slice a1 len1 cap1] w fun e w' => e = .returned (.bool true) ∧ Below w.heap.size w w' := by
  obtain ⟨xs, hl, hr, hnil, -⟩ := row_of w0
  obtain ⟨ys, hl', hr', hnil', hwf⟩ := row_of w1
  obtain ⟨t, rfl⟩ := octs_of hwf
  by_cases h : len0 ≤ 65536 ∧ len1 ≤ 65536
  · exact lawA_main a0 a1 len0 cap0 len1 cap1 xs t w h.1 h.2 hl (by unfold octs at hl'; rw [List.length_map] at hl'; exact hl') hr hr' hnil hnil' (World.block_lt_of_cell? w _ hD) hD
  · exact lawA_long a0 a1 len0 cap0 len1 cap1 w (len_of w0) (len_of w1) h

set_option maxRecDepth 100000 in
theorem lifted (os : Os) (started : os.Started) (H : Type) (enc : TypeId × Value → H) :
    ReturnsInHanded {} Tryd.checked os 3 .any (fun w args => (Rows.fnAppendToSpellsTheSetBackSpec.pre enc Tryd.prog Tryd.f3 [] false w args ∧ laidMetH Tryd.prog Rows.fnAppendToSpellsTheSetBackRow.laid w) ∧ sizedMet enc Tryd.prog Tryd.f3 (OpenSpec.ofChange Rows.fnAppendToSpellsTheSetBackSpec) false w args)
      (Rows.fnAppendToSpellsTheSetBackSpec.post enc Tryd.prog Tryd.f3 false true false false) := by
  refine returnsInHanded_of_change_and (C := Tryd.checked) (X := fun w _ => laidMetH Tryd.prog Rows.fnAppendToSpellsTheSetBackRow.laid w) (fun _ _ _ hh h => h.of_heap hh) own started (by kernel_rfl) Tryd.func3
    (ChangeSpec.witness_shaped (enc := enc) (C := Tryd.checked) (os := os) (X := fun w _ => laidMetH Tryd.prog Rows.fnAppendToSpellsTheSetBackRow.laid w) false (World.doorLaid Tryd.prog 4000 os) #[.slice none 0 0, .slice none 0 0] 8 rfl (World.shaped_of_RefB (by kernel_rfl) (by kernel_rfl)) (by kernel_rfl) (by kernel_rfl) (by kernel_rfl) (door_met os _)) ?_
  intro W base args ds gs before hval0 hW _ _ hL _
  have hval : ∀ (j : Nat) t v, Tryd.f3.params[j]? = some t → args[j]? = some v → Value.okWide Tryd.prog W .any base t v := hval0
  have hW' := hW
  obtain ⟨p, q, hA0, hV, rfl, hfz, hnd⟩ := hW
  have hA : DataW.TrodAll enc Tryd.prog W 0 (fun _ => true) true Tryd.f3.params.toList args.toList ds p := hA0
  rw [Tryd.params3] at hA hval
  obtain ⟨v0, vs0, d0, ds0, p0, q0, hargs, rfl, rfl, h0, r0⟩ := trodAll_cons hA
  obtain ⟨v1, vs1, d1, ds1, p1, q1, rfl, rfl, rfl, h1, r1⟩ := trodAll_cons r0
  obtain ⟨rfl, rfl, rfl⟩ := trodAll_nil r1
  obtain rfl : args = #[v0, v1] := by cases args; simp_all
  obtain ⟨rfl, rfl⟩ := trodVars_none hV
  obtain ⟨a0, len0, cap0, rfl⟩ := okWide_slice Tryd.underlying22 (hval 0 22 v0 rfl rfl)
  have k0 := h0
  have lt0 : ∀ x ∈ p0, x.block < W.heap.size := by obtain ⟨m, hm⟩ := k0; exact DataW.trod_lt m _ _ _ hm
  obtain ⟨z0, w0⟩ : ∃ zs, IsRow .i32 W a0 len0 cap0 zs := by
    obtain ⟨fuel, hf⟩ := h0
    rcases open_ints Tryd.underlying22 Tryd.underlying21 (by kernel_rfl) hf with ⟨hcs, _⟩ | ⟨x, l, c, zs, hcs, _, hl, hm, hz, _, hcell, hwz⟩
    · simp [Value.cells] at hcs
      obtain ⟨rfl, rfl, rfl⟩ := hcs
      exact ⟨[], .inl ⟨rfl, rfl, rfl, rfl⟩⟩
    · simp [Value.cells] at hcs
      obtain ⟨rfl, rfl, rfl⟩ := hcs
      exact ⟨zs, .inr ⟨_, rfl, hl, hm, by simpa using hz, hcell, hwz⟩⟩
  obtain ⟨a1, len1, cap1, rfl⟩ := okWide_slice Tryd.underlying23 (hval 1 23 v1 rfl rfl)
  have k1 := h1
  have lt1 : ∀ x ∈ p1, x.block < W.heap.size := by obtain ⟨m, hm⟩ := k1; exact DataW.trod_lt m _ _ _ hm
  obtain ⟨z1, w1⟩ : ∃ zs, IsRow .u8 W a1 len1 cap1 zs := by
    obtain ⟨fuel, hf⟩ := h1
    rcases open_ints Tryd.underlying23 Tryd.underlying5 (by kernel_rfl) hf with ⟨hcs, _⟩ | ⟨x, l, c, zs, hcs, _, hl, hm, hz, _, hcell, hwz⟩
    · simp [Value.cells] at hcs
      obtain ⟨rfl, rfl, rfl⟩ := hcs
      exact ⟨[], .inl ⟨rfl, rfl, rfl, rfl⟩⟩
    · simp [Value.cells] at hcs
      obtain ⟨rfl, rfl, rfl⟩ := hcs
      exact ⟨zs, .inr ⟨_, rfl, hl, hm, by simpa using hz, hcell, hwz⟩⟩
  clear hA0 hval0
  refine (walk a0 len0 cap0 z0 a1 len1 cap1 z1 W w0 w1 (of_laid hL)).mono fun e W' ⟨he, bel⟩ => ?_
  subst he
  exact ⟨_, rfl, _, _, _, [], _, [], hW', trodAll_mk1 (shut_bool Tryd.underlying4 _), (trodAll_cons_mk (Below.trod laidOut (by kernel_rfl) (of_decide_eq_true (by kernel_rfl)) k0 bel lt0) (trodAll_cons_mk (Below.trod laidOut (by kernel_rfl) (of_decide_eq_true (by kernel_rfl)) k1 bel lt1) trodAll_mk0)), rfl, bel.frame _, fun h => by cases h⟩

theorem over : Rows.FnAppendToSpellsTheSetBackSaid :=
  OpenClaim.holds_of_wide 3 Tryd.f3 rfl rfl rfl rfl rfl rfl rfl ⟨rfl, rfl, rfl, rfl, rfl⟩ rfl rfl rfl rfl rfl (by kernel_rfl) Tryd.func3 (by kernel_rfl)
    (of_decide_eq_true (by kernel_rfl)) (by unfold Func.isWrapper; first | (rw [if_pos (by decide +kernel)]; kernel_rfl) | (rw [if_neg (by decide +kernel)]; exact ⟨rfl, rfl⟩))
    (fun os started H enc _ => lifted os started H enc)

/-- ████ THE STATEMENT: THE TIED CARD ████ -/
theorem proved : Rows.FnAppendToSpellsTheSetBackCardSaid :=
  Claim7.holds_tied_plain_at .later [] [.data, .data, .data] true Rows.fnAppendToSpellsTheSetBackCard.stood.harness false
    over (fun _ h => by cases h) (by kernel_rfl) (fun _ h => by cases h) fnAppendToSpellsTheSetBack_row_tie rfl ⟨rfl, rfl⟩ (by kernel_rfl) rfl
    (fun f fn hf hfn => by
      obtain rfl : f = 3 := Option.some.inj ((show Tryd.prog.funcNamed Rows.fnAppendToSpellsTheSetBackRow.func = some 3 by kernel_rfl).symm.trans hf) |>.symm
      obtain rfl : fn = Tryd.f3 := (Option.some.inj (Tryd.func3.symm.trans hfn)).symm
      exact ⟨by kernel_rfl, fun j t ht => by
        rw [Tryd.params3] at ht
        have hm : t ∈ [22, 23] := by simpa using Array.mem_of_getElem? ht
        have hall : ([22, 23].all fun u => !Tryd.prog.wantsStandIn u) = true := by kernel_rfl
        exact (show Tryd.prog.wantsStandIn t = false by simpa using List.all_eq_true.1 hall t hm)⟩)
    (by kernel_rfl)
#print axioms proved
end Go.Proofs.Qxb6003389aDoor.fnAppendToSpellsTheSetBack
