/-
  DERIVED. GIVEN WITH THE SEED: THE CARDS: each row of Qxb6003389aDoorRows.lean that lists a variable, with what it lists TIED to the program's text (the seventh form; the later family's looks); each row that meets fmt, with fmt's text TOLD by the authors' own Lean function (tested against real Go, not proved from fmt's source: count such statements apart). THE CARD IS WHAT COUNTS. Prove the row's statement (the work); the ties are given (Qxb6003389aDoorTie.lean); close each card by the builder's one call (the guide's Derived/Test/ToyasCard.lean, 'card_holds'). Laid BY PROGRAM, IN A SANDBOX (cutbox-door.mjs). By AI agents, Wed Nov 11 2026. No macro, syntax, notation, axiom, sorry.
-/
import Derived.Test.Qxb6003389aDoorRows
import GoSem.ClaimSeven
namespace Go.Proofs.Qxb6003389aDoor
namespace Rows

/-- THE TIED CARD OF 'zzlaws_root_g2.FnAppendToSpellsTheSetBack'. -/
def fnAppendToSpellsTheSetBackCard : Claim7 := { stood := { row := fnAppendToSpellsTheSetBackRow, standIns := [], harness := (true, "c8d9ae41ca086d7be16ed53b64019242ad1813ae3d86095da3bc8d2d94ae4ccf"), looks := false }, kinds := [], alts := [], laidByText := true, laidKinds := [.data, .data, .data], laidTests := true, laidLooks := .later }
def FnAppendToSpellsTheSetBackCardSaid : Prop := Claim7.holds Tryd.pinned (.plain (OpenSpec.ofChange fnAppendToSpellsTheSetBackSpec)) fnAppendToSpellsTheSetBackCard

/-- THE TIED CARD OF 'zzlaws_root_g2.FnVersionPatternGrammarAndNormalForm'. -/
def fnVersionPatternGrammarAndNormalFormCard : Claim7 := { stood := { row := fnVersionPatternGrammarAndNormalFormRow, standIns := [], harness := (true, "c8d9ae41ca086d7be16ed53b64019242ad1813ae3d86095da3bc8d2d94ae4ccf"), looks := false }, kinds := [], alts := [], laidByText := true, laidKinds := [.data, .pinned], laidTests := true, laidLooks := .later }
def FnVersionPatternGrammarAndNormalFormCardSaid : Prop := Claim7.holds Tryd.pinned (.plain (OpenSpec.ofChange fnVersionPatternGrammarAndNormalFormSpec)) fnVersionPatternGrammarAndNormalFormCard

/-- THE TIED CARD OF 'zzlaws_root_g2.FnEveryVersionIsAPatternOfItself'. -/
def fnEveryVersionIsAPatternOfItselfCard : Claim7 := { stood := { row := fnEveryVersionIsAPatternOfItselfRow, standIns := [], harness := (true, "c8d9ae41ca086d7be16ed53b64019242ad1813ae3d86095da3bc8d2d94ae4ccf"), looks := false }, kinds := [], alts := [], laidByText := true, laidKinds := [.data, .pinned], laidTests := true, laidLooks := .later }
def FnEveryVersionIsAPatternOfItselfCardSaid : Prop := Claim7.holds Tryd.pinned (.plain (OpenSpec.ofChange fnEveryVersionIsAPatternOfItselfSpec)) fnEveryVersionIsAPatternOfItselfCard

/-- THE TIED CARD OF 'zzlaws_root_g2.FnWildcardsOnlyWiden'. -/
def fnWildcardsOnlyWidenCard : Claim7 := { stood := { row := fnWildcardsOnlyWidenRow, standIns := [], harness := (true, "c8d9ae41ca086d7be16ed53b64019242ad1813ae3d86095da3bc8d2d94ae4ccf"), looks := false }, kinds := [], alts := [], laidByText := true, laidKinds := [.data, .pinned], laidTests := true, laidLooks := .later }
def FnWildcardsOnlyWidenCardSaid : Prop := Claim7.holds Tryd.pinned (.plain (OpenSpec.ofChange fnWildcardsOnlyWidenSpec)) fnWildcardsOnlyWidenCard

/-- THE TIED CARD OF 'zzlaws_root_g2.FnPortRangeStringReadsBack'. -/
def fnPortRangeStringReadsBackCard : Claim7 := { stood := { row := fnPortRangeStringReadsBackRow, standIns := [], harness := (true, "c8d9ae41ca086d7be16ed53b64019242ad1813ae3d86095da3bc8d2d94ae4ccf"), looks := false }, kinds := [], alts := [], laidByText := true, laidKinds := [.data, .data, .data], laidTests := true, laidLooks := .later }
def FnPortRangeStringReadsBackCardSaid : Prop := Claim7.holds Tryd.pinned (.plain (OpenSpec.ofChange fnPortRangeStringReadsBackSpec)) fnPortRangeStringReadsBackCard
end Rows
end Go.Proofs.Qxb6003389aDoor
