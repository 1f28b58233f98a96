/-
  No cell of these rows narrows 'for every input' (looked for: loops, veiled, ifaces, maps, wideKeys, modest, calm, conditions, laid).
  DERIVED. THE GIVEN ROWS OF THIS SEAT. 7 by the template 'for every input the law returns true; each argument reads behind the call as it read before'; 0 by the template 'total and deterministic' (their statements: YoeccwTotals.lean).
  GIVEN WITH THE SEED: the statements are not yours to turn. If you find one false, say at which input.
  Laid BY PROGRAM, IN A SANDBOX (cutbox-rows.mjs): the forced cells as the released guide's own fill.sh prints them over the translation e85afb11501946a7… (all of the seat's roots in one cut). By AI agents, Wed Nov 11 2026. No macro, syntax, notation, axiom, sorry.
-/
import Derived.Test.YoeccwChecked
import GoSem.Claim
import GoSem.ClaimJoined
import GoSem.ClaimMapViews
import Derived.JoinedTies
import Derived.KernelRfl
namespace Go.Proofs.Yoeccw
/- THE CELL 'sum', in the pinned program and in every row, IS THE sha256 OF THE DUMP (.gsa) THAT YoeccwProg.lean LOADS. Nothing in Lean hashes anything: it is a label: what it is worth is what the hold of that sum in a sandbox is worth. -/
noncomputable def Eccg.pinned : Pinned := { name := "yoeccw", sum := "e85afb11501946a7804ee9b60a07d5d89820580b2b00455acefaa723f13d4bb4", checked := Eccg.checked }
namespace Rows
def none {H : Type} : Left H := { results := [], args := [] }

/-- 'zzlaws_root_b1.FnBytesIterNextTrueExactlyLengthTimes': WHATEVER THE INPUT: true; the input reads as it did. -/
def fnBytesIterNextTrueExactlyLengthTimesSpec : ChangeSpec := { name := "fnBytesIterNextTrueExactlyLengthTimes", fn := fun _ => fun
  | [d1, d2] => { results := [.lit (.bool true)], args := [d1, d2] }
  | _ => none }
def fnBytesIterNextTrueExactlyLengthTimesRow : OpenClaim := { program := "yoeccw", sum := "e85afb11501946a7804ee9b60a07d5d89820580b2b00455acefaa723f13d4bb4", func := "github.com/d5/tengo/v2/zzlaws_root_b1.FnBytesIterNextTrueExactlyLengthTimes", spec := "fnBytesIterNextTrueExactlyLengthTimes", apart := false }
def FnBytesIterNextTrueExactlyLengthTimesSaid : Prop := fnBytesIterNextTrueExactlyLengthTimesRow.holds Eccg.pinned (OpenSpec.ofChange fnBytesIterNextTrueExactlyLengthTimesSpec)

/-- ITS FALSE NEIGHBOUR: 'it returns false'. Refute it at one input. -/
def fnBytesIterNextTrueExactlyLengthTimesWrong : ChangeSpec := { name := "fnBytesIterNextTrueExactlyLengthTimes", fn := fun _ => fun
  | [d1, d2] => { results := [.lit (.bool false)], args := [d1, d2] }
  | _ => none }
def FnBytesIterNextTrueExactlyLengthTimesWrongFalsely : Prop := fnBytesIterNextTrueExactlyLengthTimesRow.holds Eccg.pinned (OpenSpec.ofChange fnBytesIterNextTrueExactlyLengthTimesWrong)

/-- 'zzlaws_root_b1.FnMapIterTypeNameDistinct': WHATEVER THE INPUT: true; the input reads as it did. -/
def fnMapIterTypeNameDistinctSpec : ChangeSpec := { name := "fnMapIterTypeNameDistinct", fn := fun _ => fun
  | [] => { results := [.lit (.bool true)], args := [] }
  | _ => none }
def fnMapIterTypeNameDistinctRow : OpenClaim := { program := "yoeccw", sum := "e85afb11501946a7804ee9b60a07d5d89820580b2b00455acefaa723f13d4bb4", func := "github.com/d5/tengo/v2/zzlaws_root_b1.FnMapIterTypeNameDistinct", spec := "fnMapIterTypeNameDistinct", apart := false }
def FnMapIterTypeNameDistinctSaid : Prop := fnMapIterTypeNameDistinctRow.holds Eccg.pinned (OpenSpec.ofChange fnMapIterTypeNameDistinctSpec)

/-- ITS FALSE NEIGHBOUR: 'it returns false'. Refute it at one input. -/
def fnMapIterTypeNameDistinctWrong : ChangeSpec := { name := "fnMapIterTypeNameDistinct", fn := fun _ => fun
  | [] => { results := [.lit (.bool false)], args := [] }
  | _ => none }
def FnMapIterTypeNameDistinctWrongFalsely : Prop := fnMapIterTypeNameDistinctRow.holds Eccg.pinned (OpenSpec.ofChange fnMapIterTypeNameDistinctWrong)

/-- 'zzlaws_root_b1.FnBytesIterCopyResumesIndependently': WHATEVER THE INPUT: true; the input reads as it did. -/
def fnBytesIterCopyResumesIndependentlySpec : ChangeSpec := { name := "fnBytesIterCopyResumesIndependently", fn := fun _ => fun
  | [d1, d2] => { results := [.lit (.bool true)], args := [d1, d2] }
  | _ => none }
def fnBytesIterCopyResumesIndependentlyRow : OpenClaim := { program := "yoeccw", sum := "e85afb11501946a7804ee9b60a07d5d89820580b2b00455acefaa723f13d4bb4", func := "github.com/d5/tengo/v2/zzlaws_root_b1.FnBytesIterCopyResumesIndependently", spec := "fnBytesIterCopyResumesIndependently", apart := false }
def FnBytesIterCopyResumesIndependentlySaid : Prop := fnBytesIterCopyResumesIndependentlyRow.holds Eccg.pinned (OpenSpec.ofChange fnBytesIterCopyResumesIndependentlySpec)

/-- ITS FALSE NEIGHBOUR: 'it returns false'. Refute it at one input. -/
def fnBytesIterCopyResumesIndependentlyWrong : ChangeSpec := { name := "fnBytesIterCopyResumesIndependently", fn := fun _ => fun
  | [d1, d2] => { results := [.lit (.bool false)], args := [d1, d2] }
  | _ => none }
def FnBytesIterCopyResumesIndependentlyWrongFalsely : Prop := fnBytesIterCopyResumesIndependentlyRow.holds Eccg.pinned (OpenSpec.ofChange fnBytesIterCopyResumesIndependentlyWrong)

/-- 'zzlaws_root_b1.FnBytesIterKeysCountFromZero': WHATEVER THE INPUT: true; the input reads as it did. -/
def fnBytesIterKeysCountFromZeroSpec : ChangeSpec := { name := "fnBytesIterKeysCountFromZero", fn := fun _ => fun
  | [d] => { results := [.lit (.bool true)], args := [d] }
  | _ => none }
def fnBytesIterKeysCountFromZeroRow : OpenClaim := { program := "yoeccw", sum := "e85afb11501946a7804ee9b60a07d5d89820580b2b00455acefaa723f13d4bb4", func := "github.com/d5/tengo/v2/zzlaws_root_b1.FnBytesIterKeysCountFromZero", spec := "fnBytesIterKeysCountFromZero", apart := false }
def FnBytesIterKeysCountFromZeroSaid : Prop := fnBytesIterKeysCountFromZeroRow.holds Eccg.pinned (OpenSpec.ofChange fnBytesIterKeysCountFromZeroSpec)

/-- ITS FALSE NEIGHBOUR: 'it returns false'. Refute it at one input. -/
def fnBytesIterKeysCountFromZeroWrong : ChangeSpec := { name := "fnBytesIterKeysCountFromZero", fn := fun _ => fun
  | [d] => { results := [.lit (.bool false)], args := [d] }
  | _ => none }
def FnBytesIterKeysCountFromZeroWrongFalsely : Prop := fnBytesIterKeysCountFromZeroRow.holds Eccg.pinned (OpenSpec.ofChange fnBytesIterKeysCountFromZeroWrong)

/-- 'zzlaws_root_b1.FnBytesIterReadsDoNotAdvance': WHATEVER THE INPUT: true; the input reads as it did. -/
def fnBytesIterReadsDoNotAdvanceSpec : ChangeSpec := { name := "fnBytesIterReadsDoNotAdvance", fn := fun _ => fun
  | [d1, d2] => { results := [.lit (.bool true)], args := [d1, d2] }
  | _ => none }
def fnBytesIterReadsDoNotAdvanceRow : OpenClaim := { program := "yoeccw", sum := "e85afb11501946a7804ee9b60a07d5d89820580b2b00455acefaa723f13d4bb4", func := "github.com/d5/tengo/v2/zzlaws_root_b1.FnBytesIterReadsDoNotAdvance", spec := "fnBytesIterReadsDoNotAdvance", apart := false }
def FnBytesIterReadsDoNotAdvanceSaid : Prop := fnBytesIterReadsDoNotAdvanceRow.holds Eccg.pinned (OpenSpec.ofChange fnBytesIterReadsDoNotAdvanceSpec)

/-- ITS FALSE NEIGHBOUR: 'it returns false'. Refute it at one input. -/
def fnBytesIterReadsDoNotAdvanceWrong : ChangeSpec := { name := "fnBytesIterReadsDoNotAdvance", fn := fun _ => fun
  | [d1, d2] => { results := [.lit (.bool false)], args := [d1, d2] }
  | _ => none }
def FnBytesIterReadsDoNotAdvanceWrongFalsely : Prop := fnBytesIterReadsDoNotAdvanceRow.holds Eccg.pinned (OpenSpec.ofChange fnBytesIterReadsDoNotAdvanceWrong)

/-- 'zzlaws_root_b1.FnBytesIterValuesSpellTheBytes': WHATEVER THE INPUT: true; the input reads as it did. -/
def fnBytesIterValuesSpellTheBytesSpec : ChangeSpec := { name := "fnBytesIterValuesSpellTheBytes", fn := fun _ => fun
  | [d] => { results := [.lit (.bool true)], args := [d] }
  | _ => none }
def fnBytesIterValuesSpellTheBytesRow : OpenClaim := { program := "yoeccw", sum := "e85afb11501946a7804ee9b60a07d5d89820580b2b00455acefaa723f13d4bb4", func := "github.com/d5/tengo/v2/zzlaws_root_b1.FnBytesIterValuesSpellTheBytes", spec := "fnBytesIterValuesSpellTheBytes", apart := false }
def FnBytesIterValuesSpellTheBytesSaid : Prop := fnBytesIterValuesSpellTheBytesRow.holds Eccg.pinned (OpenSpec.ofChange fnBytesIterValuesSpellTheBytesSpec)

/-- ITS FALSE NEIGHBOUR: 'it returns false'. Refute it at one input. -/
def fnBytesIterValuesSpellTheBytesWrong : ChangeSpec := { name := "fnBytesIterValuesSpellTheBytes", fn := fun _ => fun
  | [d] => { results := [.lit (.bool false)], args := [d] }
  | _ => none }
def FnBytesIterValuesSpellTheBytesWrongFalsely : Prop := fnBytesIterValuesSpellTheBytesRow.holds Eccg.pinned (OpenSpec.ofChange fnBytesIterValuesSpellTheBytesWrong)

/-- 'zzlaws_root_b1.FnBytesIterValueSeesLaterWrites': WHATEVER THE INPUT: true; the input reads as it did. -/
def fnBytesIterValueSeesLaterWritesSpec : ChangeSpec := { name := "fnBytesIterValueSeesLaterWrites", fn := fun _ => fun
  | [d1, d2, d3] => { results := [.lit (.bool true)], args := [d1, d2, d3] }
  | _ => none }
def fnBytesIterValueSeesLaterWritesRow : OpenClaim := { program := "yoeccw", sum := "e85afb11501946a7804ee9b60a07d5d89820580b2b00455acefaa723f13d4bb4", func := "github.com/d5/tengo/v2/zzlaws_root_b1.FnBytesIterValueSeesLaterWrites", spec := "fnBytesIterValueSeesLaterWrites", apart := false }
def FnBytesIterValueSeesLaterWritesSaid : Prop := fnBytesIterValueSeesLaterWritesRow.holds Eccg.pinned (OpenSpec.ofChange fnBytesIterValueSeesLaterWritesSpec)

/-- ITS FALSE NEIGHBOUR: 'it returns false'. Refute it at one input. -/
def fnBytesIterValueSeesLaterWritesWrong : ChangeSpec := { name := "fnBytesIterValueSeesLaterWrites", fn := fun _ => fun
  | [d1, d2, d3] => { results := [.lit (.bool false)], args := [d1, d2, d3] }
  | _ => none }
def FnBytesIterValueSeesLaterWritesWrongFalsely : Prop := fnBytesIterValueSeesLaterWritesRow.holds Eccg.pinned (OpenSpec.ofChange fnBytesIterValueSeesLaterWritesWrong)

end Rows
end Go.Proofs.Yoeccw
