/-
  No cell of these rows narrows 'for every input' (looked for: loops, veiled, ifaces, maps, wideKeys, modest, calm, conditions, laid).
  DERIVED. THE GIVEN ROWS OF THIS SEAT. 3 by the template 'for every input the law returns true; each argument reads behind the call as it read before'; 0 by the template 'total and deterministic' (their statements: Qxb6003389aTotals.lean).
  GIVEN WITH THE SEED: the statements are not yours to turn. If you find one false, say at which input.
  Laid BY PROGRAM, IN A SANDBOX (cutbox-rows.mjs): the forced cells as the released guide's own fill.sh prints them over the translation 15d0895f11edf662… (all of the seat's roots in one cut). By AI agents, Wed Nov 11 2026. No macro, syntax, notation, axiom, sorry.
-/
import Derived.Test.Qxb6003389aChecked
import GoSem.Claim
import GoSem.ClaimJoined
import GoSem.ClaimMapViews
import Derived.JoinedTies
import Derived.KernelRfl
namespace Go.Proofs.Qxb6003389a
/- THE CELL 'sum', in the pinned program and in every row, IS THE sha256 OF THE DUMP (.gsa) THAT Qxb6003389aProg.lean LOADS. Nothing in Lean hashes anything: it is a label: what it is worth is what the hold of that sum in a sandbox is worth. -/
noncomputable def Try.pinned : Pinned := { name := "qxb6003389a", sum := "15d0895f11edf662b331afd2ab81562bf2d5c26c0bfec6800d35e256d500002d", checked := Try.checked }
namespace Rows
def none {H : Type} : Left H := { results := [], args := [] }

/-- 'zzlaws_root_g2.FnComplementExactInvolution': WHATEVER THE INPUT: true; the input reads as it did. -/
def fnComplementExactInvolutionSpec : ChangeSpec := { name := "fnComplementExactInvolution", fn := fun _ => fun
  | [d1, d2] => { results := [.lit (.bool true)], args := [d1, d2] }
  | _ => none }
def fnComplementExactInvolutionRow : OpenClaim := { program := "qxb6003389a", sum := "15d0895f11edf662b331afd2ab81562bf2d5c26c0bfec6800d35e256d500002d", func := "example.com/firethorn/firethorn/zzlaws_root_g2.FnComplementExactInvolution", spec := "fnComplementExactInvolution", apart := false }
def FnComplementExactInvolutionSaid : Prop := fnComplementExactInvolutionRow.holds Try.pinned (OpenSpec.ofChange fnComplementExactInvolutionSpec)

/-- ITS FALSE NEIGHBOUR: 'it returns false'. Refute it at one input. -/
def fnComplementExactInvolutionWrong : ChangeSpec := { name := "fnComplementExactInvolution", fn := fun _ => fun
  | [d1, d2] => { results := [.lit (.bool false)], args := [d1, d2] }
  | _ => none }
def FnComplementExactInvolutionWrongFalsely : Prop := fnComplementExactInvolutionRow.holds Try.pinned (OpenSpec.ofChange fnComplementExactInvolutionWrong)

/-- 'zzlaws_root_g2.FnQuoteKeepsBothEndsAndUTF8': WHATEVER THE INPUT: true; the input reads as it did. -/
def fnQuoteKeepsBothEndsAndUTF8Spec : ChangeSpec := { name := "fnQuoteKeepsBothEndsAndUTF8", fn := fun _ => fun
  | [d] => { results := [.lit (.bool true)], args := [d] }
  | _ => none }
def fnQuoteKeepsBothEndsAndUTF8Row : OpenClaim := { program := "qxb6003389a", sum := "15d0895f11edf662b331afd2ab81562bf2d5c26c0bfec6800d35e256d500002d", func := "example.com/firethorn/firethorn/zzlaws_root_g2.FnQuoteKeepsBothEndsAndUTF8", spec := "fnQuoteKeepsBothEndsAndUTF8", apart := false }
def FnQuoteKeepsBothEndsAndUTF8Said : Prop := fnQuoteKeepsBothEndsAndUTF8Row.holds Try.pinned (OpenSpec.ofChange fnQuoteKeepsBothEndsAndUTF8Spec)

/-- ITS FALSE NEIGHBOUR: 'it returns false'. Refute it at one input. -/
def fnQuoteKeepsBothEndsAndUTF8Wrong : ChangeSpec := { name := "fnQuoteKeepsBothEndsAndUTF8", fn := fun _ => fun
  | [d] => { results := [.lit (.bool false)], args := [d] }
  | _ => none }
def FnQuoteKeepsBothEndsAndUTF8WrongFalsely : Prop := fnQuoteKeepsBothEndsAndUTF8Row.holds Try.pinned (OpenSpec.ofChange fnQuoteKeepsBothEndsAndUTF8Wrong)

/-- 'zzlaws_root_g2.FnCursorMergesInOrder': WHATEVER THE INPUT: true; the input reads as it did. -/
def fnCursorMergesInOrderSpec : ChangeSpec := { name := "fnCursorMergesInOrder", fn := fun _ => fun
  | [d1, d2] => { results := [.lit (.bool true)], args := [d1, d2] }
  | _ => none }
def fnCursorMergesInOrderRow : OpenClaim := { program := "qxb6003389a", sum := "15d0895f11edf662b331afd2ab81562bf2d5c26c0bfec6800d35e256d500002d", func := "example.com/firethorn/firethorn/zzlaws_root_g2.FnCursorMergesInOrder", spec := "fnCursorMergesInOrder", apart := false }
def FnCursorMergesInOrderSaid : Prop := fnCursorMergesInOrderRow.holds Try.pinned (OpenSpec.ofChange fnCursorMergesInOrderSpec)

/-- ITS FALSE NEIGHBOUR: 'it returns false'. Refute it at one input. -/
def fnCursorMergesInOrderWrong : ChangeSpec := { name := "fnCursorMergesInOrder", fn := fun _ => fun
  | [d1, d2] => { results := [.lit (.bool false)], args := [d1, d2] }
  | _ => none }
def FnCursorMergesInOrderWrongFalsely : Prop := fnCursorMergesInOrderRow.holds Try.pinned (OpenSpec.ofChange fnCursorMergesInOrderWrong)

end Rows
end Go.Proofs.Qxb6003389a
