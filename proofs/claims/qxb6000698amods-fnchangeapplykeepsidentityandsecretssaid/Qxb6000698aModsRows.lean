/-
  No cell of these rows narrows 'for every input' (looked for: loops, veiled, ifaces, maps, wideKeys, modest, calm, conditions, laid).
  DERIVED. THE GIVEN ROWS OF THIS SEAT. 8 by the template 'for every input the law returns true; each argument reads behind the call as it read before'; 0 by the template 'total and deterministic' (their statements: Qxb6000698aModsTotals.lean).
  GIVEN WITH THE SEED: the statements are not yours to turn. If you find one false, say at which input.
  Laid BY PROGRAM, IN A SANDBOX (cutbox-rows.mjs): the forced cells as the released guide's own fill.sh prints them over the translation f2a217c293d6c562… (all of the seat's roots in one cut). By AI agents, Wed Nov 11 2026. No macro, syntax, notation, axiom, sorry.
-/
import Derived.Test.Qxb6000698aModsChecked
import GoSem.Claim
import GoSem.ClaimJoined
import GoSem.ClaimMapViews
import Derived.JoinedTies
import Derived.KernelRfl
namespace Go.Proofs.Qxb6000698aMods
/- THE CELL 'sum', in the pinned program and in every row, IS THE sha256 OF THE DUMP (.gsa) THAT Qxb6000698aModsProg.lean LOADS. Nothing in Lean hashes anything: it is a label: what it is worth is what the hold of that sum in a sandbox is worth. -/
noncomputable def Trym.pinned : Pinned := { name := "qxb6000698amods", sum := "f2a217c293d6c562aa0d7c90211a654e00ab2617ebe9b191c3f59b7e71f4c49c", checked := Trym.checked }
namespace Rows
def none {H : Type} : Left H := { results := [], args := [] }

/-- 'zzlaws_keys_b1.FnChangeApplyKeepsIdentityAndSecrets': WHATEVER THE INPUT: true; the input reads as it did. -/
def fnChangeApplyKeepsIdentityAndSecretsSpec : ChangeSpec := { name := "fnChangeApplyKeepsIdentityAndSecrets", fn := fun _ => fun
  | [d1, d2] => { results := [.lit (.bool true)], args := [d1, d2] }
  | _ => none }
def fnChangeApplyKeepsIdentityAndSecretsRow : OpenClaim := { program := "qxb6000698amods", sum := "f2a217c293d6c562aa0d7c90211a654e00ab2617ebe9b191c3f59b7e71f4c49c", func := "example.com/austere-gate/austere-gate/zzlaws_keys_b1.FnChangeApplyKeepsIdentityAndSecrets", spec := "fnChangeApplyKeepsIdentityAndSecrets", make := .lifted ["publicsums"], apart := false }
def FnChangeApplyKeepsIdentityAndSecretsSaid : Prop := fnChangeApplyKeepsIdentityAndSecretsRow.holds Trym.pinned (OpenSpec.ofChange fnChangeApplyKeepsIdentityAndSecretsSpec)

/-- ITS FALSE NEIGHBOUR: 'it returns false'. Refute it at one input. -/
def fnChangeApplyKeepsIdentityAndSecretsWrong : ChangeSpec := { name := "fnChangeApplyKeepsIdentityAndSecrets", fn := fun _ => fun
  | [d1, d2] => { results := [.lit (.bool false)], args := [d1, d2] }
  | _ => none }
def FnChangeApplyKeepsIdentityAndSecretsWrongFalsely : Prop := fnChangeApplyKeepsIdentityAndSecretsRow.holds Trym.pinned (OpenSpec.ofChange fnChangeApplyKeepsIdentityAndSecretsWrong)

/-- 'zzlaws_keys_b1.FnChangeApplyIsIdempotent': WHATEVER THE INPUT: true; the input reads as it did. -/
def fnChangeApplyIsIdempotentSpec : ChangeSpec := { name := "fnChangeApplyIsIdempotent", fn := fun _ => fun
  | [d1, d2] => { results := [.lit (.bool true)], args := [d1, d2] }
  | _ => none }
def fnChangeApplyIsIdempotentRow : OpenClaim := { program := "qxb6000698amods", sum := "f2a217c293d6c562aa0d7c90211a654e00ab2617ebe9b191c3f59b7e71f4c49c", func := "example.com/austere-gate/austere-gate/zzlaws_keys_b1.FnChangeApplyIsIdempotent", spec := "fnChangeApplyIsIdempotent", make := .lifted ["publicsums"], apart := false }
def FnChangeApplyIsIdempotentSaid : Prop := fnChangeApplyIsIdempotentRow.holds Trym.pinned (OpenSpec.ofChange fnChangeApplyIsIdempotentSpec)

/-- ITS FALSE NEIGHBOUR: 'it returns false'. Refute it at one input. -/
def fnChangeApplyIsIdempotentWrong : ChangeSpec := { name := "fnChangeApplyIsIdempotent", fn := fun _ => fun
  | [d1, d2] => { results := [.lit (.bool false)], args := [d1, d2] }
  | _ => none }
def FnChangeApplyIsIdempotentWrongFalsely : Prop := fnChangeApplyIsIdempotentRow.holds Trym.pinned (OpenSpec.ofChange fnChangeApplyIsIdempotentWrong)

/-- 'zzlaws_keys_b1.FnChangeApplyComposes': WHATEVER THE INPUT: true; the input reads as it did. -/
def fnChangeApplyComposesSpec : ChangeSpec := { name := "fnChangeApplyComposes", fn := fun _ => fun
  | [d1, d2, d3] => { results := [.lit (.bool true)], args := [d1, d2, d3] }
  | _ => none }
def fnChangeApplyComposesRow : OpenClaim := { program := "qxb6000698amods", sum := "f2a217c293d6c562aa0d7c90211a654e00ab2617ebe9b191c3f59b7e71f4c49c", func := "example.com/austere-gate/austere-gate/zzlaws_keys_b1.FnChangeApplyComposes", spec := "fnChangeApplyComposes", make := .lifted ["publicsums"], apart := false }
def FnChangeApplyComposesSaid : Prop := fnChangeApplyComposesRow.holds Trym.pinned (OpenSpec.ofChange fnChangeApplyComposesSpec)

/-- ITS FALSE NEIGHBOUR: 'it returns false'. Refute it at one input. -/
def fnChangeApplyComposesWrong : ChangeSpec := { name := "fnChangeApplyComposes", fn := fun _ => fun
  | [d1, d2, d3] => { results := [.lit (.bool false)], args := [d1, d2, d3] }
  | _ => none }
def FnChangeApplyComposesWrongFalsely : Prop := fnChangeApplyComposesRow.holds Trym.pinned (OpenSpec.ofChange fnChangeApplyComposesWrong)

/-- 'zzlaws_keys_b1.FnEncodeBase62DecodesBack': WHATEVER THE INPUT: true; the input reads as it did. -/
def fnEncodeBase62DecodesBackSpec : ChangeSpec := { name := "fnEncodeBase62DecodesBack", fn := fun _ => fun
  | [d] => { results := [.lit (.bool true)], args := [d] }
  | _ => none }
def fnEncodeBase62DecodesBackRow : OpenClaim := { program := "qxb6000698amods", sum := "f2a217c293d6c562aa0d7c90211a654e00ab2617ebe9b191c3f59b7e71f4c49c", func := "example.com/austere-gate/austere-gate/zzlaws_keys_b1.FnEncodeBase62DecodesBack", spec := "fnEncodeBase62DecodesBack", make := .lifted ["publicsums"], apart := false }
def FnEncodeBase62DecodesBackSaid : Prop := fnEncodeBase62DecodesBackRow.holds Trym.pinned (OpenSpec.ofChange fnEncodeBase62DecodesBackSpec)

/-- ITS FALSE NEIGHBOUR: 'it returns false'. Refute it at one input. -/
def fnEncodeBase62DecodesBackWrong : ChangeSpec := { name := "fnEncodeBase62DecodesBack", fn := fun _ => fun
  | [d] => { results := [.lit (.bool false)], args := [d] }
  | _ => none }
def FnEncodeBase62DecodesBackWrongFalsely : Prop := fnEncodeBase62DecodesBackRow.holds Trym.pinned (OpenSpec.ofChange fnEncodeBase62DecodesBackWrong)

/-- 'zzlaws_keys_b1.FnEncodeBase62KeepsOrder': WHATEVER THE INPUT: true; the input reads as it did. -/
def fnEncodeBase62KeepsOrderSpec : ChangeSpec := { name := "fnEncodeBase62KeepsOrder", fn := fun _ => fun
  | [d1, d2] => { results := [.lit (.bool true)], args := [d1, d2] }
  | _ => none }
def fnEncodeBase62KeepsOrderRow : OpenClaim := { program := "qxb6000698amods", sum := "f2a217c293d6c562aa0d7c90211a654e00ab2617ebe9b191c3f59b7e71f4c49c", func := "example.com/austere-gate/austere-gate/zzlaws_keys_b1.FnEncodeBase62KeepsOrder", spec := "fnEncodeBase62KeepsOrder", make := .lifted ["publicsums"], apart := false }
def FnEncodeBase62KeepsOrderSaid : Prop := fnEncodeBase62KeepsOrderRow.holds Trym.pinned (OpenSpec.ofChange fnEncodeBase62KeepsOrderSpec)

/-- ITS FALSE NEIGHBOUR: 'it returns false'. Refute it at one input. -/
def fnEncodeBase62KeepsOrderWrong : ChangeSpec := { name := "fnEncodeBase62KeepsOrder", fn := fun _ => fun
  | [d1, d2] => { results := [.lit (.bool false)], args := [d1, d2] }
  | _ => none }
def FnEncodeBase62KeepsOrderWrongFalsely : Prop := fnEncodeBase62KeepsOrderRow.holds Trym.pinned (OpenSpec.ofChange fnEncodeBase62KeepsOrderWrong)

/-- 'zzlaws_keys_b1.FnEncodeBase62MakesASecret': WHATEVER THE INPUT: true; the input reads as it did. -/
def fnEncodeBase62MakesASecretSpec : ChangeSpec := { name := "fnEncodeBase62MakesASecret", fn := fun _ => fun
  | [d] => { results := [.lit (.bool true)], args := [d] }
  | _ => none }
def fnEncodeBase62MakesASecretRow : OpenClaim := { program := "qxb6000698amods", sum := "f2a217c293d6c562aa0d7c90211a654e00ab2617ebe9b191c3f59b7e71f4c49c", func := "example.com/austere-gate/austere-gate/zzlaws_keys_b1.FnEncodeBase62MakesASecret", spec := "fnEncodeBase62MakesASecret", inPlace := ["internal/bytealg.IndexByteString"], make := .lifted ["publicsums"], apart := false }
def FnEncodeBase62MakesASecretSaid : Prop := fnEncodeBase62MakesASecretRow.holds Trym.pinned (OpenSpec.ofChange fnEncodeBase62MakesASecretSpec)

/-- ITS FALSE NEIGHBOUR: 'it returns false'. Refute it at one input. -/
def fnEncodeBase62MakesASecretWrong : ChangeSpec := { name := "fnEncodeBase62MakesASecret", fn := fun _ => fun
  | [d] => { results := [.lit (.bool false)], args := [d] }
  | _ => none }
def FnEncodeBase62MakesASecretWrongFalsely : Prop := fnEncodeBase62MakesASecretRow.holds Trym.pinned (OpenSpec.ofChange fnEncodeBase62MakesASecretWrong)

/-- 'zzlaws_keys_b1.FnIsSecretExactForm': WHATEVER THE INPUT: true; the input reads as it did. -/
def fnIsSecretExactFormSpec : ChangeSpec := { name := "fnIsSecretExactForm", fn := fun _ => fun
  | [d] => { results := [.lit (.bool true)], args := [d] }
  | _ => none }
def fnIsSecretExactFormRow : OpenClaim := { program := "qxb6000698amods", sum := "f2a217c293d6c562aa0d7c90211a654e00ab2617ebe9b191c3f59b7e71f4c49c", func := "example.com/austere-gate/austere-gate/zzlaws_keys_b1.FnIsSecretExactForm", spec := "fnIsSecretExactForm", inPlace := ["internal/bytealg.IndexByteString"], make := .lifted ["publicsums"], apart := false }
def FnIsSecretExactFormSaid : Prop := fnIsSecretExactFormRow.holds Trym.pinned (OpenSpec.ofChange fnIsSecretExactFormSpec)

/-- ITS FALSE NEIGHBOUR: 'it returns false'. Refute it at one input. -/
def fnIsSecretExactFormWrong : ChangeSpec := { name := "fnIsSecretExactForm", fn := fun _ => fun
  | [d] => { results := [.lit (.bool false)], args := [d] }
  | _ => none }
def FnIsSecretExactFormWrongFalsely : Prop := fnIsSecretExactFormRow.holds Trym.pinned (OpenSpec.ofChange fnIsSecretExactFormWrong)

/-- 'zzlaws_keys_b1.FnIsSecretInRangeIsAnEncoding': WHATEVER THE INPUT: true; the input reads as it did. -/
def fnIsSecretInRangeIsAnEncodingSpec : ChangeSpec := { name := "fnIsSecretInRangeIsAnEncoding", fn := fun _ => fun
  | [d] => { results := [.lit (.bool true)], args := [d] }
  | _ => none }
def fnIsSecretInRangeIsAnEncodingRow : OpenClaim := { program := "qxb6000698amods", sum := "f2a217c293d6c562aa0d7c90211a654e00ab2617ebe9b191c3f59b7e71f4c49c", func := "example.com/austere-gate/austere-gate/zzlaws_keys_b1.FnIsSecretInRangeIsAnEncoding", spec := "fnIsSecretInRangeIsAnEncoding", inPlace := ["internal/bytealg.IndexByteString"], make := .lifted ["publicsums"], apart := false }
def FnIsSecretInRangeIsAnEncodingSaid : Prop := fnIsSecretInRangeIsAnEncodingRow.holds Trym.pinned (OpenSpec.ofChange fnIsSecretInRangeIsAnEncodingSpec)

/-- ITS FALSE NEIGHBOUR: 'it returns false'. Refute it at one input. -/
def fnIsSecretInRangeIsAnEncodingWrong : ChangeSpec := { name := "fnIsSecretInRangeIsAnEncoding", fn := fun _ => fun
  | [d] => { results := [.lit (.bool false)], args := [d] }
  | _ => none }
def FnIsSecretInRangeIsAnEncodingWrongFalsely : Prop := fnIsSecretInRangeIsAnEncodingRow.holds Trym.pinned (OpenSpec.ofChange fnIsSecretInRangeIsAnEncodingWrong)

end Rows
end Go.Proofs.Qxb6000698aMods
