/-
  No cell of these rows narrows 'for every input' (looked for: loops, veiled, ifaces, maps, wideKeys, modest, calm, conditions, laid).
  DERIVED. THE GIVEN ROWS OF THIS SEAT. 6 by the template 'for every input the law returns true; each argument reads behind the call as it read before'; 0 by the template 'total and deterministic' (their statements: YoedowTotals.lean).
  GIVEN WITH THE SEED: the statements are not yours to turn. If you find one false, say at which input.
  Laid BY PROGRAM, IN A SANDBOX (cutbox-rows.mjs): the forced cells as the released guide's own fill.sh prints them over the translation 3776ee3554a5586e… (all of the seat's roots in one cut). By AI agents, Wed Nov 11 2026. No macro, syntax, notation, axiom, sorry.
-/
import Derived.Test.YoedowChecked
import GoSem.Claim
import GoSem.ClaimJoined
import GoSem.ClaimMapViews
import Derived.JoinedTies
import Derived.KernelRfl
namespace Go.Proofs.Yoedow
/- THE CELL 'sum', in the pinned program and in every row, IS THE sha256 OF THE DUMP (.gsa) THAT YoedowProg.lean LOADS. Nothing in Lean hashes anything: it is a label: what it is worth is what the hold of that sum in a sandbox is worth. -/
noncomputable def Edog.pinned : Pinned := { name := "yoedow", sum := "3776ee3554a5586e34aed61ba269e2795f9225c007768477105f8dd3b81eaa81", checked := Edog.checked }
namespace Rows
def none {H : Type} : Left H := { results := [], args := [] }

/-- 'zzlaws_root_b1.FnBoolGobDecodeTable': WHATEVER THE INPUT: true; the input reads as it did. -/
def fnBoolGobDecodeTableSpec : ChangeSpec := { name := "fnBoolGobDecodeTable", fn := fun _ => fun
  | [d1, d2] => { results := [.lit (.bool true)], args := [d1, d2] }
  | _ => none }
def fnBoolGobDecodeTableRow : OpenClaim := { program := "yoedow", sum := "3776ee3554a5586e34aed61ba269e2795f9225c007768477105f8dd3b81eaa81", func := "github.com/d5/tengo/v2/zzlaws_root_b1.FnBoolGobDecodeTable", spec := "fnBoolGobDecodeTable", apart := false }
def FnBoolGobDecodeTableSaid : Prop := fnBoolGobDecodeTableRow.holds Edog.pinned (OpenSpec.ofChange fnBoolGobDecodeTableSpec)

/-- ITS FALSE NEIGHBOUR: 'it returns false'. Refute it at one input. -/
def fnBoolGobDecodeTableWrong : ChangeSpec := { name := "fnBoolGobDecodeTable", fn := fun _ => fun
  | [d1, d2] => { results := [.lit (.bool false)], args := [d1, d2] }
  | _ => none }
def FnBoolGobDecodeTableWrongFalsely : Prop := fnBoolGobDecodeTableRow.holds Edog.pinned (OpenSpec.ofChange fnBoolGobDecodeTableWrong)

/-- 'zzlaws_root_b1.FnBoolGobRoundTrip': WHATEVER THE INPUT: true; the input reads as it did. -/
def fnBoolGobRoundTripSpec : ChangeSpec := { name := "fnBoolGobRoundTrip", fn := fun _ => fun
  | [d1, d2] => { results := [.lit (.bool true)], args := [d1, d2] }
  | _ => none }
def fnBoolGobRoundTripRow : OpenClaim := { program := "yoedow", sum := "3776ee3554a5586e34aed61ba269e2795f9225c007768477105f8dd3b81eaa81", func := "github.com/d5/tengo/v2/zzlaws_root_b1.FnBoolGobRoundTrip", spec := "fnBoolGobRoundTrip", apart := false }
def FnBoolGobRoundTripSaid : Prop := fnBoolGobRoundTripRow.holds Edog.pinned (OpenSpec.ofChange fnBoolGobRoundTripSpec)

/-- ITS FALSE NEIGHBOUR: 'it returns false'. Refute it at one input. -/
def fnBoolGobRoundTripWrong : ChangeSpec := { name := "fnBoolGobRoundTrip", fn := fun _ => fun
  | [d1, d2] => { results := [.lit (.bool false)], args := [d1, d2] }
  | _ => none }
def FnBoolGobRoundTripWrongFalsely : Prop := fnBoolGobRoundTripRow.holds Edog.pinned (OpenSpec.ofChange fnBoolGobRoundTripWrong)

/-- 'zzlaws_root_b1.FnBoolGobEncodeAgreesWithString': WHATEVER THE INPUT: true; the input reads as it did. -/
def fnBoolGobEncodeAgreesWithStringSpec : ChangeSpec := { name := "fnBoolGobEncodeAgreesWithString", fn := fun _ => fun
  | [d] => { results := [.lit (.bool true)], args := [d] }
  | _ => none }
def fnBoolGobEncodeAgreesWithStringRow : OpenClaim := { program := "yoedow", sum := "3776ee3554a5586e34aed61ba269e2795f9225c007768477105f8dd3b81eaa81", func := "github.com/d5/tengo/v2/zzlaws_root_b1.FnBoolGobEncodeAgreesWithString", spec := "fnBoolGobEncodeAgreesWithString", apart := false }
def FnBoolGobEncodeAgreesWithStringSaid : Prop := fnBoolGobEncodeAgreesWithStringRow.holds Edog.pinned (OpenSpec.ofChange fnBoolGobEncodeAgreesWithStringSpec)

/-- ITS FALSE NEIGHBOUR: 'it returns false'. Refute it at one input. -/
def fnBoolGobEncodeAgreesWithStringWrong : ChangeSpec := { name := "fnBoolGobEncodeAgreesWithString", fn := fun _ => fun
  | [d] => { results := [.lit (.bool false)], args := [d] }
  | _ => none }
def FnBoolGobEncodeAgreesWithStringWrongFalsely : Prop := fnBoolGobEncodeAgreesWithStringRow.holds Edog.pinned (OpenSpec.ofChange fnBoolGobEncodeAgreesWithStringWrong)

/-- 'zzlaws_root_b1.FnBoolIsFalsyAgreesWithString': WHATEVER THE INPUT: true; the input reads as it did. -/
def fnBoolIsFalsyAgreesWithStringSpec : ChangeSpec := { name := "fnBoolIsFalsyAgreesWithString", fn := fun _ => fun
  | [d] => { results := [.lit (.bool true)], args := [d] }
  | _ => none }
def fnBoolIsFalsyAgreesWithStringRow : OpenClaim := { program := "yoedow", sum := "3776ee3554a5586e34aed61ba269e2795f9225c007768477105f8dd3b81eaa81", func := "github.com/d5/tengo/v2/zzlaws_root_b1.FnBoolIsFalsyAgreesWithString", spec := "fnBoolIsFalsyAgreesWithString", apart := false }
def FnBoolIsFalsyAgreesWithStringSaid : Prop := fnBoolIsFalsyAgreesWithStringRow.holds Edog.pinned (OpenSpec.ofChange fnBoolIsFalsyAgreesWithStringSpec)

/-- ITS FALSE NEIGHBOUR: 'it returns false'. Refute it at one input. -/
def fnBoolIsFalsyAgreesWithStringWrong : ChangeSpec := { name := "fnBoolIsFalsyAgreesWithString", fn := fun _ => fun
  | [d] => { results := [.lit (.bool false)], args := [d] }
  | _ => none }
def FnBoolIsFalsyAgreesWithStringWrongFalsely : Prop := fnBoolIsFalsyAgreesWithStringRow.holds Edog.pinned (OpenSpec.ofChange fnBoolIsFalsyAgreesWithStringWrong)

/-- 'zzlaws_root_b1.FnBoolEqualsIsIdentity': WHATEVER THE INPUT: true; the input reads as it did. -/
def fnBoolEqualsIsIdentitySpec : ChangeSpec := { name := "fnBoolEqualsIsIdentity", fn := fun _ => fun
  | [d1, d2] => { results := [.lit (.bool true)], args := [d1, d2] }
  | _ => none }
def fnBoolEqualsIsIdentityRow : OpenClaim := { program := "yoedow", sum := "3776ee3554a5586e34aed61ba269e2795f9225c007768477105f8dd3b81eaa81", func := "github.com/d5/tengo/v2/zzlaws_root_b1.FnBoolEqualsIsIdentity", spec := "fnBoolEqualsIsIdentity", apart := false }
def FnBoolEqualsIsIdentitySaid : Prop := fnBoolEqualsIsIdentityRow.holds Edog.pinned (OpenSpec.ofChange fnBoolEqualsIsIdentitySpec)

/-- ITS FALSE NEIGHBOUR: 'it returns false'. Refute it at one input. -/
def fnBoolEqualsIsIdentityWrong : ChangeSpec := { name := "fnBoolEqualsIsIdentity", fn := fun _ => fun
  | [d1, d2] => { results := [.lit (.bool false)], args := [d1, d2] }
  | _ => none }
def FnBoolEqualsIsIdentityWrongFalsely : Prop := fnBoolEqualsIsIdentityRow.holds Edog.pinned (OpenSpec.ofChange fnBoolEqualsIsIdentityWrong)

/-- 'zzlaws_root_b1.FnBoolEqualsIgnoresValue': WHATEVER THE INPUT: true; the input reads as it did. -/
def fnBoolEqualsIgnoresValueSpec : ChangeSpec := { name := "fnBoolEqualsIgnoresValue", fn := fun _ => fun
  | [d1, d2] => { results := [.lit (.bool true)], args := [d1, d2] }
  | _ => none }
def fnBoolEqualsIgnoresValueRow : OpenClaim := { program := "yoedow", sum := "3776ee3554a5586e34aed61ba269e2795f9225c007768477105f8dd3b81eaa81", func := "github.com/d5/tengo/v2/zzlaws_root_b1.FnBoolEqualsIgnoresValue", spec := "fnBoolEqualsIgnoresValue", apart := false }
def FnBoolEqualsIgnoresValueSaid : Prop := fnBoolEqualsIgnoresValueRow.holds Edog.pinned (OpenSpec.ofChange fnBoolEqualsIgnoresValueSpec)

/-- ITS FALSE NEIGHBOUR: 'it returns false'. Refute it at one input. -/
def fnBoolEqualsIgnoresValueWrong : ChangeSpec := { name := "fnBoolEqualsIgnoresValue", fn := fun _ => fun
  | [d1, d2] => { results := [.lit (.bool false)], args := [d1, d2] }
  | _ => none }
def FnBoolEqualsIgnoresValueWrongFalsely : Prop := fnBoolEqualsIgnoresValueRow.holds Edog.pinned (OpenSpec.ofChange fnBoolEqualsIgnoresValueWrong)

end Rows
end Go.Proofs.Yoedow
