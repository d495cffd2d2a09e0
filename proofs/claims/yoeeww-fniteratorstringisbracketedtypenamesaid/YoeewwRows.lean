/-
  No cell of these rows narrows 'for every input' (looked for: loops, veiled, ifaces, maps, wideKeys, modest, calm, conditions, laid).
  DERIVED. THE GIVEN ROWS OF THIS SEAT. 8 by the template 'for every input the law returns true; each argument reads behind the call as it read before'; 0 by the template 'total and deterministic' (their statements: YoeewwTotals.lean).
  GIVEN WITH THE SEED: the statements are not yours to turn. If you find one false, say at which input.
  Laid BY PROGRAM, IN A SANDBOX (cutbox-rows.mjs): the forced cells as the released guide's own fill.sh prints them over the translation 47f87bf0f2c0491b… (all of the seat's roots in one cut). By AI agents, Wed Nov 11 2026. No macro, syntax, notation, axiom, sorry.
-/
import Derived.Test.YoeewwChecked
import GoSem.Claim
import GoSem.ClaimJoined
import GoSem.ClaimMapViews
import Derived.JoinedTies
import Derived.KernelRfl
namespace Go.Proofs.Yoeeww
/- THE CELL 'sum', in the pinned program and in every row, IS THE sha256 OF THE DUMP (.gsa) THAT YoeewwProg.lean LOADS. Nothing in Lean hashes anything: it is a label: what it is worth is what the hold of that sum in a sandbox is worth. -/
noncomputable def Eewg.pinned : Pinned := { name := "yoeeww", sum := "47f87bf0f2c0491be62bb733e77ca0556209875881c40d09abed7d13e22a2d57", checked := Eewg.checked }
namespace Rows
def none {H : Type} : Left H := { results := [], args := [] }

/-- 'zzlaws_root_b1.FnArrayIteratorTypeNameFixed': WHATEVER THE INPUT: true; the input reads as it did. -/
def fnArrayIteratorTypeNameFixedSpec : ChangeSpec := { name := "fnArrayIteratorTypeNameFixed", fn := fun _ => fun
  | [d1, d2] => { results := [.lit (.bool true)], args := [d1, d2] }
  | _ => none }
def fnArrayIteratorTypeNameFixedRow : OpenClaim := { program := "yoeeww", sum := "47f87bf0f2c0491be62bb733e77ca0556209875881c40d09abed7d13e22a2d57", func := "github.com/d5/tengo/v2/zzlaws_root_b1.FnArrayIteratorTypeNameFixed", spec := "fnArrayIteratorTypeNameFixed", apart := false }
def FnArrayIteratorTypeNameFixedSaid : Prop := fnArrayIteratorTypeNameFixedRow.holds Eewg.pinned (OpenSpec.ofChange fnArrayIteratorTypeNameFixedSpec)

/-- ITS FALSE NEIGHBOUR: 'it returns false'. Refute it at one input. -/
def fnArrayIteratorTypeNameFixedWrong : ChangeSpec := { name := "fnArrayIteratorTypeNameFixed", fn := fun _ => fun
  | [d1, d2] => { results := [.lit (.bool false)], args := [d1, d2] }
  | _ => none }
def FnArrayIteratorTypeNameFixedWrongFalsely : Prop := fnArrayIteratorTypeNameFixedRow.holds Eewg.pinned (OpenSpec.ofChange fnArrayIteratorTypeNameFixedWrong)

/-- 'zzlaws_root_b1.FnArrayIteratorTypeNameDistinct': WHATEVER THE INPUT: true; the input reads as it did. -/
def fnArrayIteratorTypeNameDistinctSpec : ChangeSpec := { name := "fnArrayIteratorTypeNameDistinct", fn := fun _ => fun
  | [d1, d2] => { results := [.lit (.bool true)], args := [d1, d2] }
  | _ => none }
def fnArrayIteratorTypeNameDistinctRow : OpenClaim := { program := "yoeeww", sum := "47f87bf0f2c0491be62bb733e77ca0556209875881c40d09abed7d13e22a2d57", func := "github.com/d5/tengo/v2/zzlaws_root_b1.FnArrayIteratorTypeNameDistinct", spec := "fnArrayIteratorTypeNameDistinct", apart := false }
def FnArrayIteratorTypeNameDistinctSaid : Prop := fnArrayIteratorTypeNameDistinctRow.holds Eewg.pinned (OpenSpec.ofChange fnArrayIteratorTypeNameDistinctSpec)

/-- ITS FALSE NEIGHBOUR: 'it returns false'. Refute it at one input. -/
def fnArrayIteratorTypeNameDistinctWrong : ChangeSpec := { name := "fnArrayIteratorTypeNameDistinct", fn := fun _ => fun
  | [d1, d2] => { results := [.lit (.bool false)], args := [d1, d2] }
  | _ => none }
def FnArrayIteratorTypeNameDistinctWrongFalsely : Prop := fnArrayIteratorTypeNameDistinctRow.holds Eewg.pinned (OpenSpec.ofChange fnArrayIteratorTypeNameDistinctWrong)

/-- 'zzlaws_root_b1.FnArrayIteratorStringFixed': WHATEVER THE INPUT: true; the input reads as it did. -/
def fnArrayIteratorStringFixedSpec : ChangeSpec := { name := "fnArrayIteratorStringFixed", fn := fun _ => fun
  | [d1, d2] => { results := [.lit (.bool true)], args := [d1, d2] }
  | _ => none }
def fnArrayIteratorStringFixedRow : OpenClaim := { program := "yoeeww", sum := "47f87bf0f2c0491be62bb733e77ca0556209875881c40d09abed7d13e22a2d57", func := "github.com/d5/tengo/v2/zzlaws_root_b1.FnArrayIteratorStringFixed", spec := "fnArrayIteratorStringFixed", apart := false }
def FnArrayIteratorStringFixedSaid : Prop := fnArrayIteratorStringFixedRow.holds Eewg.pinned (OpenSpec.ofChange fnArrayIteratorStringFixedSpec)

/-- ITS FALSE NEIGHBOUR: 'it returns false'. Refute it at one input. -/
def fnArrayIteratorStringFixedWrong : ChangeSpec := { name := "fnArrayIteratorStringFixed", fn := fun _ => fun
  | [d1, d2] => { results := [.lit (.bool false)], args := [d1, d2] }
  | _ => none }
def FnArrayIteratorStringFixedWrongFalsely : Prop := fnArrayIteratorStringFixedRow.holds Eewg.pinned (OpenSpec.ofChange fnArrayIteratorStringFixedWrong)

/-- 'zzlaws_root_b1.FnIteratorStringIsBracketedTypeName': WHATEVER THE INPUT: true; the input reads as it did. -/
def fnIteratorStringIsBracketedTypeNameSpec : ChangeSpec := { name := "fnIteratorStringIsBracketedTypeName", fn := fun _ => fun
  | [d1, d2] => { results := [.lit (.bool true)], args := [d1, d2] }
  | _ => none }
def fnIteratorStringIsBracketedTypeNameRow : OpenClaim := { program := "yoeeww", sum := "47f87bf0f2c0491be62bb733e77ca0556209875881c40d09abed7d13e22a2d57", func := "github.com/d5/tengo/v2/zzlaws_root_b1.FnIteratorStringIsBracketedTypeName", spec := "fnIteratorStringIsBracketedTypeName", apart := false }
def FnIteratorStringIsBracketedTypeNameSaid : Prop := fnIteratorStringIsBracketedTypeNameRow.holds Eewg.pinned (OpenSpec.ofChange fnIteratorStringIsBracketedTypeNameSpec)

/-- ITS FALSE NEIGHBOUR: 'it returns false'. Refute it at one input. -/
def fnIteratorStringIsBracketedTypeNameWrong : ChangeSpec := { name := "fnIteratorStringIsBracketedTypeName", fn := fun _ => fun
  | [d1, d2] => { results := [.lit (.bool false)], args := [d1, d2] }
  | _ => none }
def FnIteratorStringIsBracketedTypeNameWrongFalsely : Prop := fnIteratorStringIsBracketedTypeNameRow.holds Eewg.pinned (OpenSpec.ofChange fnIteratorStringIsBracketedTypeNameWrong)

/-- 'zzlaws_root_b1.FnArrayIteratorAlwaysFalsy': WHATEVER THE INPUT: true; the input reads as it did. -/
def fnArrayIteratorAlwaysFalsySpec : ChangeSpec := { name := "fnArrayIteratorAlwaysFalsy", fn := fun _ => fun
  | [d1, d2] => { results := [.lit (.bool true)], args := [d1, d2] }
  | _ => none }
def fnArrayIteratorAlwaysFalsyRow : OpenClaim := { program := "yoeeww", sum := "47f87bf0f2c0491be62bb733e77ca0556209875881c40d09abed7d13e22a2d57", func := "github.com/d5/tengo/v2/zzlaws_root_b1.FnArrayIteratorAlwaysFalsy", spec := "fnArrayIteratorAlwaysFalsy", apart := false }
def FnArrayIteratorAlwaysFalsySaid : Prop := fnArrayIteratorAlwaysFalsyRow.holds Eewg.pinned (OpenSpec.ofChange fnArrayIteratorAlwaysFalsySpec)

/-- ITS FALSE NEIGHBOUR: 'it returns false'. Refute it at one input. -/
def fnArrayIteratorAlwaysFalsyWrong : ChangeSpec := { name := "fnArrayIteratorAlwaysFalsy", fn := fun _ => fun
  | [d1, d2] => { results := [.lit (.bool false)], args := [d1, d2] }
  | _ => none }
def FnArrayIteratorAlwaysFalsyWrongFalsely : Prop := fnArrayIteratorAlwaysFalsyRow.holds Eewg.pinned (OpenSpec.ofChange fnArrayIteratorAlwaysFalsyWrong)

/-- 'zzlaws_root_b1.FnArrayIteratorFalsyUnlikeArray': WHATEVER THE INPUT: true; the input reads as it did. -/
def fnArrayIteratorFalsyUnlikeArraySpec : ChangeSpec := { name := "fnArrayIteratorFalsyUnlikeArray", fn := fun _ => fun
  | [d1, d2] => { results := [.lit (.bool true)], args := [d1, d2] }
  | _ => none }
def fnArrayIteratorFalsyUnlikeArrayRow : OpenClaim := { program := "yoeeww", sum := "47f87bf0f2c0491be62bb733e77ca0556209875881c40d09abed7d13e22a2d57", func := "github.com/d5/tengo/v2/zzlaws_root_b1.FnArrayIteratorFalsyUnlikeArray", spec := "fnArrayIteratorFalsyUnlikeArray", apart := false }
def FnArrayIteratorFalsyUnlikeArraySaid : Prop := fnArrayIteratorFalsyUnlikeArrayRow.holds Eewg.pinned (OpenSpec.ofChange fnArrayIteratorFalsyUnlikeArraySpec)

/-- ITS FALSE NEIGHBOUR: 'it returns false'. Refute it at one input. -/
def fnArrayIteratorFalsyUnlikeArrayWrong : ChangeSpec := { name := "fnArrayIteratorFalsyUnlikeArray", fn := fun _ => fun
  | [d1, d2] => { results := [.lit (.bool false)], args := [d1, d2] }
  | _ => none }
def FnArrayIteratorFalsyUnlikeArrayWrongFalsely : Prop := fnArrayIteratorFalsyUnlikeArrayRow.holds Eewg.pinned (OpenSpec.ofChange fnArrayIteratorFalsyUnlikeArrayWrong)

/-- 'zzlaws_root_b1.FnArrayIteratorEqualsNothing': WHATEVER THE INPUT: true; the input reads as it did. -/
def fnArrayIteratorEqualsNothingSpec : ChangeSpec := { name := "fnArrayIteratorEqualsNothing", fn := fun _ => fun
  | [d1, d2, d3] => { results := [.lit (.bool true)], args := [d1, d2, d3] }
  | _ => none }
def fnArrayIteratorEqualsNothingRow : OpenClaim := { program := "yoeeww", sum := "47f87bf0f2c0491be62bb733e77ca0556209875881c40d09abed7d13e22a2d57", func := "github.com/d5/tengo/v2/zzlaws_root_b1.FnArrayIteratorEqualsNothing", spec := "fnArrayIteratorEqualsNothing", apart := false }
def FnArrayIteratorEqualsNothingSaid : Prop := fnArrayIteratorEqualsNothingRow.holds Eewg.pinned (OpenSpec.ofChange fnArrayIteratorEqualsNothingSpec)

/-- ITS FALSE NEIGHBOUR: 'it returns false'. Refute it at one input. -/
def fnArrayIteratorEqualsNothingWrong : ChangeSpec := { name := "fnArrayIteratorEqualsNothing", fn := fun _ => fun
  | [d1, d2, d3] => { results := [.lit (.bool false)], args := [d1, d2, d3] }
  | _ => none }
def FnArrayIteratorEqualsNothingWrongFalsely : Prop := fnArrayIteratorEqualsNothingRow.holds Eewg.pinned (OpenSpec.ofChange fnArrayIteratorEqualsNothingWrong)

/-- 'zzlaws_root_b1.FnArrayIteratorEqualsFalseThroughScript': WHATEVER THE INPUT: true; the input reads as it did. -/
def fnArrayIteratorEqualsFalseThroughScriptSpec : ChangeSpec := { name := "fnArrayIteratorEqualsFalseThroughScript", fn := fun _ => fun
  | [d1, d2] => { results := [.lit (.bool true)], args := [d1, d2] }
  | _ => none }
def fnArrayIteratorEqualsFalseThroughScriptRow : OpenClaim := { program := "yoeeww", sum := "47f87bf0f2c0491be62bb733e77ca0556209875881c40d09abed7d13e22a2d57", func := "github.com/d5/tengo/v2/zzlaws_root_b1.FnArrayIteratorEqualsFalseThroughScript", spec := "fnArrayIteratorEqualsFalseThroughScript", apart := false }
def FnArrayIteratorEqualsFalseThroughScriptSaid : Prop := fnArrayIteratorEqualsFalseThroughScriptRow.holds Eewg.pinned (OpenSpec.ofChange fnArrayIteratorEqualsFalseThroughScriptSpec)

/-- ITS FALSE NEIGHBOUR: 'it returns false'. Refute it at one input. -/
def fnArrayIteratorEqualsFalseThroughScriptWrong : ChangeSpec := { name := "fnArrayIteratorEqualsFalseThroughScript", fn := fun _ => fun
  | [d1, d2] => { results := [.lit (.bool false)], args := [d1, d2] }
  | _ => none }
def FnArrayIteratorEqualsFalseThroughScriptWrongFalsely : Prop := fnArrayIteratorEqualsFalseThroughScriptRow.holds Eewg.pinned (OpenSpec.ofChange fnArrayIteratorEqualsFalseThroughScriptWrong)

end Rows
end Go.Proofs.Yoeeww
