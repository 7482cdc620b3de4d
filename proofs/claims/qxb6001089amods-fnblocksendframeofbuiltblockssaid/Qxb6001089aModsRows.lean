/-
  No cell of these rows narrows 'for every input' (looked for: loops, veiled, ifaces, maps, wideKeys, modest, calm, conditions, laid).
  DERIVED. THE GIVEN ROWS OF THIS SEAT. 9 by the template 'for every input the law returns true; each argument reads behind the call as it read before'; 0 by the template 'total and deterministic' (their statements: Qxb6001089aModsTotals.lean).
  GIVEN WITH THE SEED: the statements are not yours to turn. If you find one false, say at which input.
  Laid BY PROGRAM, IN A SANDBOX (cutbox-rows.mjs): the forced cells as the released guide's own fill.sh prints them over the translation 57946923184e6eaf… (all of the seat's roots in one cut). By AI agents, Wed Nov 11 2026. No macro, syntax, notation, axiom, sorry.
-/
import Derived.Test.Qxb6001089aModsChecked
import GoSem.Claim
import GoSem.ClaimJoined
import GoSem.ClaimMapViews
import Derived.JoinedTies
import Derived.KernelRfl
namespace Go.Proofs.Qxb6001089aMods
/- THE CELL 'sum', in the pinned program and in every row, IS THE sha256 OF THE DUMP (.gsa) THAT Qxb6001089aModsProg.lean LOADS. Nothing in Lean hashes anything: it is a label: what it is worth is what the hold of that sum in a sandbox is worth. -/
noncomputable def Trym.pinned : Pinned := { name := "qxb6001089amods", sum := "57946923184e6eaf6dad340d4a169e934ee7a5d09cd1225db7c2a87f288b4bc8", checked := Trym.checked }
namespace Rows
def none {H : Type} : Left H := { results := [], args := [] }

/-- 'zzlaws_chunk_b1.FnWithinBoundsSymmetric': WHATEVER THE INPUT: true; the input reads as it did. -/
def fnWithinBoundsSymmetricSpec : ChangeSpec := { name := "fnWithinBoundsSymmetric", fn := fun _ => fun
  | [d1, d2] => { results := [.lit (.bool true)], args := [d1, d2] }
  | _ => none }
def fnWithinBoundsSymmetricRow : OpenClaim := { program := "qxb6001089amods", sum := "57946923184e6eaf6dad340d4a169e934ee7a5d09cd1225db7c2a87f288b4bc8", func := "example.com/hashweave/hashweave/zzlaws_chunk_b1.FnWithinBoundsSymmetric", spec := "fnWithinBoundsSymmetric", make := .lifted ["publicsums"], apart := false }
def FnWithinBoundsSymmetricSaid : Prop := fnWithinBoundsSymmetricRow.holds Trym.pinned (OpenSpec.ofChange fnWithinBoundsSymmetricSpec)

/-- ITS FALSE NEIGHBOUR: 'it returns false'. Refute it at one input. -/
def fnWithinBoundsSymmetricWrong : ChangeSpec := { name := "fnWithinBoundsSymmetric", fn := fun _ => fun
  | [d1, d2] => { results := [.lit (.bool false)], args := [d1, d2] }
  | _ => none }
def FnWithinBoundsSymmetricWrongFalsely : Prop := fnWithinBoundsSymmetricRow.holds Trym.pinned (OpenSpec.ofChange fnWithinBoundsSymmetricWrong)

/-- 'zzlaws_chunk_b1.FnWithinBoundsDownwardClosed': WHATEVER THE INPUT: true; the input reads as it did. -/
def fnWithinBoundsDownwardClosedSpec : ChangeSpec := { name := "fnWithinBoundsDownwardClosed", fn := fun _ => fun
  | [d1, d2, d3, d4] => { results := [.lit (.bool true)], args := [d1, d2, d3, d4] }
  | _ => none }
def fnWithinBoundsDownwardClosedRow : OpenClaim := { program := "qxb6001089amods", sum := "57946923184e6eaf6dad340d4a169e934ee7a5d09cd1225db7c2a87f288b4bc8", func := "example.com/hashweave/hashweave/zzlaws_chunk_b1.FnWithinBoundsDownwardClosed", spec := "fnWithinBoundsDownwardClosed", make := .lifted ["publicsums"], apart := false }
def FnWithinBoundsDownwardClosedSaid : Prop := fnWithinBoundsDownwardClosedRow.holds Trym.pinned (OpenSpec.ofChange fnWithinBoundsDownwardClosedSpec)

/-- ITS FALSE NEIGHBOUR: 'it returns false'. Refute it at one input. -/
def fnWithinBoundsDownwardClosedWrong : ChangeSpec := { name := "fnWithinBoundsDownwardClosed", fn := fun _ => fun
  | [d1, d2, d3, d4] => { results := [.lit (.bool false)], args := [d1, d2, d3, d4] }
  | _ => none }
def FnWithinBoundsDownwardClosedWrongFalsely : Prop := fnWithinBoundsDownwardClosedRow.holds Trym.pinned (OpenSpec.ofChange fnWithinBoundsDownwardClosedWrong)

/-- 'zzlaws_chunk_b1.FnWithinBoundsRefusesOutside': WHATEVER THE INPUT: true; the input reads as it did. -/
def fnWithinBoundsRefusesOutsideSpec : ChangeSpec := { name := "fnWithinBoundsRefusesOutside", fn := fun _ => fun
  | [d1, d2] => { results := [.lit (.bool true)], args := [d1, d2] }
  | _ => none }
def fnWithinBoundsRefusesOutsideRow : OpenClaim := { program := "qxb6001089amods", sum := "57946923184e6eaf6dad340d4a169e934ee7a5d09cd1225db7c2a87f288b4bc8", func := "example.com/hashweave/hashweave/zzlaws_chunk_b1.FnWithinBoundsRefusesOutside", spec := "fnWithinBoundsRefusesOutside", make := .lifted ["publicsums"], apart := false }
def FnWithinBoundsRefusesOutsideSaid : Prop := fnWithinBoundsRefusesOutsideRow.holds Trym.pinned (OpenSpec.ofChange fnWithinBoundsRefusesOutsideSpec)

/-- ITS FALSE NEIGHBOUR: 'it returns false'. Refute it at one input. -/
def fnWithinBoundsRefusesOutsideWrong : ChangeSpec := { name := "fnWithinBoundsRefusesOutside", fn := fun _ => fun
  | [d1, d2] => { results := [.lit (.bool false)], args := [d1, d2] }
  | _ => none }
def FnWithinBoundsRefusesOutsideWrongFalsely : Prop := fnWithinBoundsRefusesOutsideRow.holds Trym.pinned (OpenSpec.ofChange fnWithinBoundsRefusesOutsideWrong)

/-- 'zzlaws_chunk_b1.FnBlocksEndFrameOfBuiltBlocks': WHATEVER THE INPUT: true; the input reads as it did. -/
def fnBlocksEndFrameOfBuiltBlocksSpec : ChangeSpec := { name := "fnBlocksEndFrameOfBuiltBlocks", fn := fun _ => fun
  | [d1, d2, d3] => { results := [.lit (.bool true)], args := [d1, d2, d3] }
  | _ => none }
def fnBlocksEndFrameOfBuiltBlocksRow : OpenClaim := { program := "qxb6001089amods", sum := "57946923184e6eaf6dad340d4a169e934ee7a5d09cd1225db7c2a87f288b4bc8", func := "example.com/hashweave/hashweave/zzlaws_chunk_b1.FnBlocksEndFrameOfBuiltBlocks", spec := "fnBlocksEndFrameOfBuiltBlocks", make := .lifted ["publicsums"], apart := false }
def FnBlocksEndFrameOfBuiltBlocksSaid : Prop := fnBlocksEndFrameOfBuiltBlocksRow.holds Trym.pinned (OpenSpec.ofChange fnBlocksEndFrameOfBuiltBlocksSpec)

/-- ITS FALSE NEIGHBOUR: 'it returns false'. Refute it at one input. -/
def fnBlocksEndFrameOfBuiltBlocksWrong : ChangeSpec := { name := "fnBlocksEndFrameOfBuiltBlocks", fn := fun _ => fun
  | [d1, d2, d3] => { results := [.lit (.bool false)], args := [d1, d2, d3] }
  | _ => none }
def FnBlocksEndFrameOfBuiltBlocksWrongFalsely : Prop := fnBlocksEndFrameOfBuiltBlocksRow.holds Trym.pinned (OpenSpec.ofChange fnBlocksEndFrameOfBuiltBlocksWrong)

/-- 'zzlaws_chunk_b1.FnBlocksEndIgnoresBytesAfterLastBlock': WHATEVER THE INPUT: true; the input reads as it did. -/
def fnBlocksEndIgnoresBytesAfterLastBlockSpec : ChangeSpec := { name := "fnBlocksEndIgnoresBytesAfterLastBlock", fn := fun _ => fun
  | [d1, d2, d3] => { results := [.lit (.bool true)], args := [d1, d2, d3] }
  | _ => none }
def fnBlocksEndIgnoresBytesAfterLastBlockRow : OpenClaim := { program := "qxb6001089amods", sum := "57946923184e6eaf6dad340d4a169e934ee7a5d09cd1225db7c2a87f288b4bc8", func := "example.com/hashweave/hashweave/zzlaws_chunk_b1.FnBlocksEndIgnoresBytesAfterLastBlock", spec := "fnBlocksEndIgnoresBytesAfterLastBlock", make := .lifted ["publicsums"], apart := false }
def FnBlocksEndIgnoresBytesAfterLastBlockSaid : Prop := fnBlocksEndIgnoresBytesAfterLastBlockRow.holds Trym.pinned (OpenSpec.ofChange fnBlocksEndIgnoresBytesAfterLastBlockSpec)

/-- ITS FALSE NEIGHBOUR: 'it returns false'. Refute it at one input. -/
def fnBlocksEndIgnoresBytesAfterLastBlockWrong : ChangeSpec := { name := "fnBlocksEndIgnoresBytesAfterLastBlock", fn := fun _ => fun
  | [d1, d2, d3] => { results := [.lit (.bool false)], args := [d1, d2, d3] }
  | _ => none }
def FnBlocksEndIgnoresBytesAfterLastBlockWrongFalsely : Prop := fnBlocksEndIgnoresBytesAfterLastBlockRow.holds Trym.pinned (OpenSpec.ofChange fnBlocksEndIgnoresBytesAfterLastBlockWrong)

/-- 'zzlaws_chunk_b1.FnBlocksEndBounds': WHATEVER THE INPUT: true; the input reads as it did. -/
def fnBlocksEndBoundsSpec : ChangeSpec := { name := "fnBlocksEndBounds", fn := fun _ => fun
  | [d1, d2] => { results := [.lit (.bool true)], args := [d1, d2] }
  | _ => none }
def fnBlocksEndBoundsRow : OpenClaim := { program := "qxb6001089amods", sum := "57946923184e6eaf6dad340d4a169e934ee7a5d09cd1225db7c2a87f288b4bc8", func := "example.com/hashweave/hashweave/zzlaws_chunk_b1.FnBlocksEndBounds", spec := "fnBlocksEndBounds", make := .lifted ["publicsums"], apart := false }
def FnBlocksEndBoundsSaid : Prop := fnBlocksEndBoundsRow.holds Trym.pinned (OpenSpec.ofChange fnBlocksEndBoundsSpec)

/-- ITS FALSE NEIGHBOUR: 'it returns false'. Refute it at one input. -/
def fnBlocksEndBoundsWrong : ChangeSpec := { name := "fnBlocksEndBounds", fn := fun _ => fun
  | [d1, d2] => { results := [.lit (.bool false)], args := [d1, d2] }
  | _ => none }
def FnBlocksEndBoundsWrongFalsely : Prop := fnBlocksEndBoundsRow.holds Trym.pinned (OpenSpec.ofChange fnBlocksEndBoundsWrong)

/-- 'zzlaws_chunk_b1.FnArithCodeKeepsInvariantOverScript': WHATEVER THE INPUT: true; the input reads as it did. -/
def fnArithCodeKeepsInvariantOverScriptSpec : ChangeSpec := { name := "fnArithCodeKeepsInvariantOverScript", fn := fun _ => fun
  | [d1, d2] => { results := [.lit (.bool true)], args := [d1, d2] }
  | _ => none }
def fnArithCodeKeepsInvariantOverScriptRow : OpenClaim := { program := "qxb6001089amods", sum := "57946923184e6eaf6dad340d4a169e934ee7a5d09cd1225db7c2a87f288b4bc8", func := "example.com/hashweave/hashweave/zzlaws_chunk_b1.FnArithCodeKeepsInvariantOverScript", spec := "fnArithCodeKeepsInvariantOverScript", make := .lifted ["publicsums"], apart := false }
def FnArithCodeKeepsInvariantOverScriptSaid : Prop := fnArithCodeKeepsInvariantOverScriptRow.holds Trym.pinned (OpenSpec.ofChange fnArithCodeKeepsInvariantOverScriptSpec)

/-- ITS FALSE NEIGHBOUR: 'it returns false'. Refute it at one input. -/
def fnArithCodeKeepsInvariantOverScriptWrong : ChangeSpec := { name := "fnArithCodeKeepsInvariantOverScript", fn := fun _ => fun
  | [d1, d2] => { results := [.lit (.bool false)], args := [d1, d2] }
  | _ => none }
def FnArithCodeKeepsInvariantOverScriptWrongFalsely : Prop := fnArithCodeKeepsInvariantOverScriptRow.holds Trym.pinned (OpenSpec.ofChange fnArithCodeKeepsInvariantOverScriptWrong)

/-- 'zzlaws_chunk_b1.FnArithCodeSplitsIntervalExactly': WHATEVER THE INPUT: true; the input reads as it did. -/
def fnArithCodeSplitsIntervalExactlySpec : ChangeSpec := { name := "fnArithCodeSplitsIntervalExactly", fn := fun _ => fun
  | [d1, d2, d3, d4] => { results := [.lit (.bool true)], args := [d1, d2, d3, d4] }
  | _ => none }
def fnArithCodeSplitsIntervalExactlyRow : OpenClaim := { program := "qxb6001089amods", sum := "57946923184e6eaf6dad340d4a169e934ee7a5d09cd1225db7c2a87f288b4bc8", func := "example.com/hashweave/hashweave/zzlaws_chunk_b1.FnArithCodeSplitsIntervalExactly", spec := "fnArithCodeSplitsIntervalExactly", make := .lifted ["publicsums"], apart := false }
def FnArithCodeSplitsIntervalExactlySaid : Prop := fnArithCodeSplitsIntervalExactlyRow.holds Trym.pinned (OpenSpec.ofChange fnArithCodeSplitsIntervalExactlySpec)

/-- ITS FALSE NEIGHBOUR: 'it returns false'. Refute it at one input. -/
def fnArithCodeSplitsIntervalExactlyWrong : ChangeSpec := { name := "fnArithCodeSplitsIntervalExactly", fn := fun _ => fun
  | [d1, d2, d3, d4] => { results := [.lit (.bool false)], args := [d1, d2, d3, d4] }
  | _ => none }
def FnArithCodeSplitsIntervalExactlyWrongFalsely : Prop := fnArithCodeSplitsIntervalExactlyRow.holds Trym.pinned (OpenSpec.ofChange fnArithCodeSplitsIntervalExactlyWrong)

/-- 'zzlaws_chunk_b1.FnArithCodeSplitMonotoneInP': WHATEVER THE INPUT: true; the input reads as it did. -/
def fnArithCodeSplitMonotoneInPSpec : ChangeSpec := { name := "fnArithCodeSplitMonotoneInP", fn := fun _ => fun
  | [d1, d2, d3, d4] => { results := [.lit (.bool true)], args := [d1, d2, d3, d4] }
  | _ => none }
def fnArithCodeSplitMonotoneInPRow : OpenClaim := { program := "qxb6001089amods", sum := "57946923184e6eaf6dad340d4a169e934ee7a5d09cd1225db7c2a87f288b4bc8", func := "example.com/hashweave/hashweave/zzlaws_chunk_b1.FnArithCodeSplitMonotoneInP", spec := "fnArithCodeSplitMonotoneInP", make := .lifted ["publicsums"], apart := false }
def FnArithCodeSplitMonotoneInPSaid : Prop := fnArithCodeSplitMonotoneInPRow.holds Trym.pinned (OpenSpec.ofChange fnArithCodeSplitMonotoneInPSpec)

/-- ITS FALSE NEIGHBOUR: 'it returns false'. Refute it at one input. -/
def fnArithCodeSplitMonotoneInPWrong : ChangeSpec := { name := "fnArithCodeSplitMonotoneInP", fn := fun _ => fun
  | [d1, d2, d3, d4] => { results := [.lit (.bool false)], args := [d1, d2, d3, d4] }
  | _ => none }
def FnArithCodeSplitMonotoneInPWrongFalsely : Prop := fnArithCodeSplitMonotoneInPRow.holds Trym.pinned (OpenSpec.ofChange fnArithCodeSplitMonotoneInPWrong)

end Rows
end Go.Proofs.Qxb6001089aMods
