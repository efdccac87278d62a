/-
  No cell of these rows narrows 'for every input' (looked for: loops, veiled, ifaces, maps, wideKeys, modest, calm, conditions, laid).
  DERIVED. THE GIVEN ROWS OF THIS SEAT. 5 by the template 'for every input the law returns true; each argument reads behind the call as it read before'; 0 by the template 'total and deterministic' (their statements: YoeakwTotals.lean).
  GIVEN WITH THE SEED: the statements are not yours to turn. If you find one false, say at which input.
  Laid BY PROGRAM, IN A SANDBOX (cutbox-rows.mjs): the forced cells as the released guide's own fill.sh prints them over the translation e8a2d7ad50f5c864… (all of the seat's roots in one cut). By AI agents, Wed Nov 11 2026. No macro, syntax, notation, axiom, sorry.
-/
import Derived.Test.YoeakwChecked
import GoSem.Claim
import GoSem.ClaimJoined
import GoSem.ClaimMapViews
import Derived.JoinedTies
import Derived.KernelRfl
namespace Go.Proofs.Yoeakw
/- THE CELL 'sum', in the pinned program and in every row, IS THE sha256 OF THE DUMP (.gsa) THAT YoeakwProg.lean LOADS. Nothing in Lean hashes anything: it is a label: what it is worth is what the hold of that sum in a sandbox is worth. -/
noncomputable def Eakg.pinned : Pinned := { name := "yoeakw", sum := "e8a2d7ad50f5c8641da99a4ffe48733dab6dac216841e57f157385c439904691", checked := Eakg.checked }
namespace Rows
def none {H : Type} : Left H := { results := [], args := [] }

/-- 'zzlaws_root_b1.FnStringIteratorStringKeepsPosition': WHATEVER THE INPUT: true; the input reads as it did. -/
def fnStringIteratorStringKeepsPositionSpec : ChangeSpec := { name := "fnStringIteratorStringKeepsPosition", fn := fun _ => fun
  | [d1, d2] => { results := [.lit (.bool true)], args := [d1, d2] }
  | _ => none }
def fnStringIteratorStringKeepsPositionRow : OpenClaim := { program := "yoeakw", sum := "e8a2d7ad50f5c8641da99a4ffe48733dab6dac216841e57f157385c439904691", func := "github.com/d5/tengo/v2/zzlaws_root_b1.FnStringIteratorStringKeepsPosition", spec := "fnStringIteratorStringKeepsPosition", apart := false }
def FnStringIteratorStringKeepsPositionSaid : Prop := fnStringIteratorStringKeepsPositionRow.holds Eakg.pinned (OpenSpec.ofChange fnStringIteratorStringKeepsPositionSpec)

/-- ITS FALSE NEIGHBOUR: 'it returns false'. Refute it at one input. -/
def fnStringIteratorStringKeepsPositionWrong : ChangeSpec := { name := "fnStringIteratorStringKeepsPosition", fn := fun _ => fun
  | [d1, d2] => { results := [.lit (.bool false)], args := [d1, d2] }
  | _ => none }
def FnStringIteratorStringKeepsPositionWrongFalsely : Prop := fnStringIteratorStringKeepsPositionRow.holds Eakg.pinned (OpenSpec.ofChange fnStringIteratorStringKeepsPositionWrong)

/-- 'zzlaws_root_b1.FnStringIteratorIsFalsyKeepsPosition': WHATEVER THE INPUT: true; the input reads as it did. -/
def fnStringIteratorIsFalsyKeepsPositionSpec : ChangeSpec := { name := "fnStringIteratorIsFalsyKeepsPosition", fn := fun _ => fun
  | [d1, d2] => { results := [.lit (.bool true)], args := [d1, d2] }
  | _ => none }
def fnStringIteratorIsFalsyKeepsPositionRow : OpenClaim := { program := "yoeakw", sum := "e8a2d7ad50f5c8641da99a4ffe48733dab6dac216841e57f157385c439904691", func := "github.com/d5/tengo/v2/zzlaws_root_b1.FnStringIteratorIsFalsyKeepsPosition", spec := "fnStringIteratorIsFalsyKeepsPosition", apart := false }
def FnStringIteratorIsFalsyKeepsPositionSaid : Prop := fnStringIteratorIsFalsyKeepsPositionRow.holds Eakg.pinned (OpenSpec.ofChange fnStringIteratorIsFalsyKeepsPositionSpec)

/-- ITS FALSE NEIGHBOUR: 'it returns false'. Refute it at one input. -/
def fnStringIteratorIsFalsyKeepsPositionWrong : ChangeSpec := { name := "fnStringIteratorIsFalsyKeepsPosition", fn := fun _ => fun
  | [d1, d2] => { results := [.lit (.bool false)], args := [d1, d2] }
  | _ => none }
def FnStringIteratorIsFalsyKeepsPositionWrongFalsely : Prop := fnStringIteratorIsFalsyKeepsPositionRow.holds Eakg.pinned (OpenSpec.ofChange fnStringIteratorIsFalsyKeepsPositionWrong)

/-- 'zzlaws_root_b1.FnStringIteratorEqualsKeepsPosition': WHATEVER THE INPUT: true; the input reads as it did. -/
def fnStringIteratorEqualsKeepsPositionSpec : ChangeSpec := { name := "fnStringIteratorEqualsKeepsPosition", fn := fun _ => fun
  | [d1, d2] => { results := [.lit (.bool true)], args := [d1, d2] }
  | _ => none }
def fnStringIteratorEqualsKeepsPositionRow : OpenClaim := { program := "yoeakw", sum := "e8a2d7ad50f5c8641da99a4ffe48733dab6dac216841e57f157385c439904691", func := "github.com/d5/tengo/v2/zzlaws_root_b1.FnStringIteratorEqualsKeepsPosition", spec := "fnStringIteratorEqualsKeepsPosition", apart := false }
def FnStringIteratorEqualsKeepsPositionSaid : Prop := fnStringIteratorEqualsKeepsPositionRow.holds Eakg.pinned (OpenSpec.ofChange fnStringIteratorEqualsKeepsPositionSpec)

/-- ITS FALSE NEIGHBOUR: 'it returns false'. Refute it at one input. -/
def fnStringIteratorEqualsKeepsPositionWrong : ChangeSpec := { name := "fnStringIteratorEqualsKeepsPosition", fn := fun _ => fun
  | [d1, d2] => { results := [.lit (.bool false)], args := [d1, d2] }
  | _ => none }
def FnStringIteratorEqualsKeepsPositionWrongFalsely : Prop := fnStringIteratorEqualsKeepsPositionRow.holds Eakg.pinned (OpenSpec.ofChange fnStringIteratorEqualsKeepsPositionWrong)

/-- 'zzlaws_root_b1.FnStringIteratorCopyWhole': WHATEVER THE INPUT: true; the input reads as it did. -/
def fnStringIteratorCopyWholeSpec : ChangeSpec := { name := "fnStringIteratorCopyWhole", fn := fun _ => fun
  | [d1, d2] => { results := [.lit (.bool true)], args := [d1, d2] }
  | _ => none }
def fnStringIteratorCopyWholeRow : OpenClaim := { program := "yoeakw", sum := "e8a2d7ad50f5c8641da99a4ffe48733dab6dac216841e57f157385c439904691", func := "github.com/d5/tengo/v2/zzlaws_root_b1.FnStringIteratorCopyWhole", spec := "fnStringIteratorCopyWhole", apart := false }
def FnStringIteratorCopyWholeSaid : Prop := fnStringIteratorCopyWholeRow.holds Eakg.pinned (OpenSpec.ofChange fnStringIteratorCopyWholeSpec)

/-- ITS FALSE NEIGHBOUR: 'it returns false'. Refute it at one input. -/
def fnStringIteratorCopyWholeWrong : ChangeSpec := { name := "fnStringIteratorCopyWhole", fn := fun _ => fun
  | [d1, d2] => { results := [.lit (.bool false)], args := [d1, d2] }
  | _ => none }
def FnStringIteratorCopyWholeWrongFalsely : Prop := fnStringIteratorCopyWholeRow.holds Eakg.pinned (OpenSpec.ofChange fnStringIteratorCopyWholeWrong)

/-- 'zzlaws_root_b1.FnStringIteratorCopyIndependent': WHATEVER THE INPUT: true; the input reads as it did. -/
def fnStringIteratorCopyIndependentSpec : ChangeSpec := { name := "fnStringIteratorCopyIndependent", fn := fun _ => fun
  | [d1, d2] => { results := [.lit (.bool true)], args := [d1, d2] }
  | _ => none }
def fnStringIteratorCopyIndependentRow : OpenClaim := { program := "yoeakw", sum := "e8a2d7ad50f5c8641da99a4ffe48733dab6dac216841e57f157385c439904691", func := "github.com/d5/tengo/v2/zzlaws_root_b1.FnStringIteratorCopyIndependent", spec := "fnStringIteratorCopyIndependent", apart := false }
def FnStringIteratorCopyIndependentSaid : Prop := fnStringIteratorCopyIndependentRow.holds Eakg.pinned (OpenSpec.ofChange fnStringIteratorCopyIndependentSpec)

/-- ITS FALSE NEIGHBOUR: 'it returns false'. Refute it at one input. -/
def fnStringIteratorCopyIndependentWrong : ChangeSpec := { name := "fnStringIteratorCopyIndependent", fn := fun _ => fun
  | [d1, d2] => { results := [.lit (.bool false)], args := [d1, d2] }
  | _ => none }
def FnStringIteratorCopyIndependentWrongFalsely : Prop := fnStringIteratorCopyIndependentRow.holds Eakg.pinned (OpenSpec.ofChange fnStringIteratorCopyIndependentWrong)

end Rows
end Go.Proofs.Yoeakw
