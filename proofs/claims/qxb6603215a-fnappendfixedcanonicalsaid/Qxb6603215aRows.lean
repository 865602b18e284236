/-
  No cell of these rows narrows 'for every input' (looked for: loops, veiled, ifaces, maps, wideKeys, modest, calm, conditions, laid).
  DERIVED. THE GIVEN ROWS OF THIS SEAT. 6 by the template 'for every input the law returns true; each argument reads behind the call as it read before'; 0 by the template 'total and deterministic' (their statements: Qxb6603215aTotals.lean).
  GIVEN WITH THE SEED: the statements are not yours to turn. If you find one false, say at which input.
  Laid BY PROGRAM, IN A SANDBOX (cutbox-rows.mjs): the forced cells as the released guide's own fill.sh prints them over the translation c5c3b257fa23813a… (all of the seat's roots in one cut). By AI agents, Wed Nov 11 2026. No macro, syntax, notation, axiom, sorry.
-/
import Derived.Test.Qxb6603215aChecked
import GoSem.Claim
import GoSem.ClaimJoined
import GoSem.ClaimMapViews
import Derived.JoinedTies
import Derived.KernelRfl
namespace Go.Proofs.Qxb6603215a
/- THE CELL 'sum', in the pinned program and in every row, IS THE sha256 OF THE DUMP (.gsa) THAT Qxb6603215aProg.lean LOADS. Nothing in Lean hashes anything: it is a label: what it is worth is what the hold of that sum in a sandbox is worth. -/
noncomputable def Try.pinned : Pinned := { name := "qxb6603215a", sum := "c5c3b257fa23813af8f6bba7b2f83c48e6b4b8821027056c6d86151fa392d29b", checked := Try.checked }
namespace Rows
def none {H : Type} : Left H := { results := [], args := [] }

/-- 'zzlaws_root_b1.FnIsDigitsExact': WHATEVER THE INPUT: true; the input reads as it did. -/
def fnIsDigitsExactSpec : ChangeSpec := { name := "fnIsDigitsExact", fn := fun _ => fun
  | [d] => { results := [.lit (.bool true)], args := [d] }
  | _ => none }
def fnIsDigitsExactRow : OpenClaim := { program := "qxb6603215a", sum := "c5c3b257fa23813af8f6bba7b2f83c48e6b4b8821027056c6d86151fa392d29b", func := "example.com/apportion/apportion/zzlaws_root_b1.FnIsDigitsExact", spec := "fnIsDigitsExact", apart := false }
def FnIsDigitsExactSaid : Prop := fnIsDigitsExactRow.holds Try.pinned (OpenSpec.ofChange fnIsDigitsExactSpec)

/-- ITS FALSE NEIGHBOUR: 'it returns false'. Refute it at one input. -/
def fnIsDigitsExactWrong : ChangeSpec := { name := "fnIsDigitsExact", fn := fun _ => fun
  | [d] => { results := [.lit (.bool false)], args := [d] }
  | _ => none }
def FnIsDigitsExactWrongFalsely : Prop := fnIsDigitsExactRow.holds Try.pinned (OpenSpec.ofChange fnIsDigitsExactWrong)

/-- 'zzlaws_root_b1.FnIsDigitsConcat': WHATEVER THE INPUT: true; the input reads as it did. -/
def fnIsDigitsConcatSpec : ChangeSpec := { name := "fnIsDigitsConcat", fn := fun _ => fun
  | [d1, d2] => { results := [.lit (.bool true)], args := [d1, d2] }
  | _ => none }
def fnIsDigitsConcatRow : OpenClaim := { program := "qxb6603215a", sum := "c5c3b257fa23813af8f6bba7b2f83c48e6b4b8821027056c6d86151fa392d29b", func := "example.com/apportion/apportion/zzlaws_root_b1.FnIsDigitsConcat", spec := "fnIsDigitsConcat", apart := false }
def FnIsDigitsConcatSaid : Prop := fnIsDigitsConcatRow.holds Try.pinned (OpenSpec.ofChange fnIsDigitsConcatSpec)

/-- ITS FALSE NEIGHBOUR: 'it returns false'. Refute it at one input. -/
def fnIsDigitsConcatWrong : ChangeSpec := { name := "fnIsDigitsConcat", fn := fun _ => fun
  | [d1, d2] => { results := [.lit (.bool false)], args := [d1, d2] }
  | _ => none }
def FnIsDigitsConcatWrongFalsely : Prop := fnIsDigitsConcatRow.holds Try.pinned (OpenSpec.ofChange fnIsDigitsConcatWrong)

/-- 'zzlaws_root_b1.FnDiscountTypeRoundTrip': WHATEVER THE INPUT: true; the input reads as it did. -/
def fnDiscountTypeRoundTripSpec : ChangeSpec := { name := "fnDiscountTypeRoundTrip", fn := fun _ => fun
  | [d] => { results := [.lit (.bool true)], args := [d] }
  | _ => none }
def fnDiscountTypeRoundTripRow : OpenClaim := { program := "qxb6603215a", sum := "c5c3b257fa23813af8f6bba7b2f83c48e6b4b8821027056c6d86151fa392d29b", func := "example.com/apportion/apportion/zzlaws_root_b1.FnDiscountTypeRoundTrip", spec := "fnDiscountTypeRoundTrip", apart := false }
def FnDiscountTypeRoundTripSaid : Prop := fnDiscountTypeRoundTripRow.holds Try.pinned (OpenSpec.ofChange fnDiscountTypeRoundTripSpec)

/-- ITS FALSE NEIGHBOUR: 'it returns false'. Refute it at one input. -/
def fnDiscountTypeRoundTripWrong : ChangeSpec := { name := "fnDiscountTypeRoundTrip", fn := fun _ => fun
  | [d] => { results := [.lit (.bool false)], args := [d] }
  | _ => none }
def FnDiscountTypeRoundTripWrongFalsely : Prop := fnDiscountTypeRoundTripRow.holds Try.pinned (OpenSpec.ofChange fnDiscountTypeRoundTripWrong)

/-- 'zzlaws_root_b1.FnAppendFixedCanonical': WHATEVER THE INPUT: true; the input reads as it did. -/
def fnAppendFixedCanonicalSpec : ChangeSpec := { name := "fnAppendFixedCanonical", fn := fun _ => fun
  | [d1, d2, d3] => { results := [.lit (.bool true)], args := [d1, d2, d3] }
  | _ => none }
def fnAppendFixedCanonicalRow : OpenClaim := { program := "qxb6603215a", sum := "c5c3b257fa23813af8f6bba7b2f83c48e6b4b8821027056c6d86151fa392d29b", func := "example.com/apportion/apportion/zzlaws_root_b1.FnAppendFixedCanonical", spec := "fnAppendFixedCanonical", apart := false }
def FnAppendFixedCanonicalSaid : Prop := fnAppendFixedCanonicalRow.holds Try.pinned (OpenSpec.ofChange fnAppendFixedCanonicalSpec)

/-- ITS FALSE NEIGHBOUR: 'it returns false'. Refute it at one input. -/
def fnAppendFixedCanonicalWrong : ChangeSpec := { name := "fnAppendFixedCanonical", fn := fun _ => fun
  | [d1, d2, d3] => { results := [.lit (.bool false)], args := [d1, d2, d3] }
  | _ => none }
def FnAppendFixedCanonicalWrongFalsely : Prop := fnAppendFixedCanonicalRow.holds Try.pinned (OpenSpec.ofChange fnAppendFixedCanonicalWrong)

/-- 'zzlaws_root_b1.FnAppendFixedScaleByTen': WHATEVER THE INPUT: true; the input reads as it did. -/
def fnAppendFixedScaleByTenSpec : ChangeSpec := { name := "fnAppendFixedScaleByTen", fn := fun _ => fun
  | [d1, d2] => { results := [.lit (.bool true)], args := [d1, d2] }
  | _ => none }
def fnAppendFixedScaleByTenRow : OpenClaim := { program := "qxb6603215a", sum := "c5c3b257fa23813af8f6bba7b2f83c48e6b4b8821027056c6d86151fa392d29b", func := "example.com/apportion/apportion/zzlaws_root_b1.FnAppendFixedScaleByTen", spec := "fnAppendFixedScaleByTen", apart := false }
def FnAppendFixedScaleByTenSaid : Prop := fnAppendFixedScaleByTenRow.holds Try.pinned (OpenSpec.ofChange fnAppendFixedScaleByTenSpec)

/-- ITS FALSE NEIGHBOUR: 'it returns false'. Refute it at one input. -/
def fnAppendFixedScaleByTenWrong : ChangeSpec := { name := "fnAppendFixedScaleByTen", fn := fun _ => fun
  | [d1, d2] => { results := [.lit (.bool false)], args := [d1, d2] }
  | _ => none }
def FnAppendFixedScaleByTenWrongFalsely : Prop := fnAppendFixedScaleByTenRow.holds Try.pinned (OpenSpec.ofChange fnAppendFixedScaleByTenWrong)

/-- 'zzlaws_root_b1.FnAppendFixedDigitsAgree': WHATEVER THE INPUT: true; the input reads as it did. -/
def fnAppendFixedDigitsAgreeSpec : ChangeSpec := { name := "fnAppendFixedDigitsAgree", fn := fun _ => fun
  | [d1, d2] => { results := [.lit (.bool true)], args := [d1, d2] }
  | _ => none }
def fnAppendFixedDigitsAgreeRow : OpenClaim := { program := "qxb6603215a", sum := "c5c3b257fa23813af8f6bba7b2f83c48e6b4b8821027056c6d86151fa392d29b", func := "example.com/apportion/apportion/zzlaws_root_b1.FnAppendFixedDigitsAgree", spec := "fnAppendFixedDigitsAgree", apart := false }
def FnAppendFixedDigitsAgreeSaid : Prop := fnAppendFixedDigitsAgreeRow.holds Try.pinned (OpenSpec.ofChange fnAppendFixedDigitsAgreeSpec)

/-- ITS FALSE NEIGHBOUR: 'it returns false'. Refute it at one input. -/
def fnAppendFixedDigitsAgreeWrong : ChangeSpec := { name := "fnAppendFixedDigitsAgree", fn := fun _ => fun
  | [d1, d2] => { results := [.lit (.bool false)], args := [d1, d2] }
  | _ => none }
def FnAppendFixedDigitsAgreeWrongFalsely : Prop := fnAppendFixedDigitsAgreeRow.holds Try.pinned (OpenSpec.ofChange fnAppendFixedDigitsAgreeWrong)

end Rows
end Go.Proofs.Qxb6603215a
