/-
  No cell of these rows narrows 'for every input' (looked for: loops, veiled, ifaces, maps, wideKeys, modest, calm, conditions, laid).
  DERIVED. THE GIVEN ROWS OF THIS SEAT. 6 by the template 'for every input the law returns true; each argument reads behind the call as it read before'; 0 by the template 'total and deterministic' (their statements: YoebowTotals.lean).
  GIVEN WITH THE SEED: the statements are not yours to turn. If you find one false, say at which input.
  Laid BY PROGRAM, IN A SANDBOX (cutbox-rows.mjs): the forced cells as the released guide's own fill.sh prints them over the translation 19b822be244ee055… (all of the seat's roots in one cut). By AI agents, Wed Nov 11 2026. No macro, syntax, notation, axiom, sorry.
-/
import Derived.Test.YoebowChecked
import GoSem.Claim
import GoSem.ClaimJoined
import GoSem.ClaimMapViews
import Derived.JoinedTies
import Derived.KernelRfl
namespace Go.Proofs.Yoebow
/- THE CELL 'sum', in the pinned program and in every row, IS THE sha256 OF THE DUMP (.gsa) THAT YoebowProg.lean LOADS. Nothing in Lean hashes anything: it is a label: what it is worth is what the hold of that sum in a sandbox is worth. -/
noncomputable def Ebog.pinned : Pinned := { name := "yoebow", sum := "19b822be244ee0557fb69376753dd816e6391152cd6965ece8a0c00da0cd7b0d", checked := Ebog.checked }
namespace Rows
def none {H : Type} : Left H := { results := [], args := [] }

/-- 'zzlaws_root_b2.FnBuiltinTypeNameInjective': WHATEVER THE INPUT: true; the input reads as it did. -/
def fnBuiltinTypeNameInjectiveSpec : ChangeSpec := { name := "fnBuiltinTypeNameInjective", fn := fun _ => fun
  | [d1, d2] => { results := [.lit (.bool true)], args := [d1, d2] }
  | _ => none }
def fnBuiltinTypeNameInjectiveRow : OpenClaim := { program := "yoebow", sum := "19b822be244ee0557fb69376753dd816e6391152cd6965ece8a0c00da0cd7b0d", func := "github.com/d5/tengo/v2/zzlaws_root_b2.FnBuiltinTypeNameInjective", spec := "fnBuiltinTypeNameInjective", apart := false }
def FnBuiltinTypeNameInjectiveSaid : Prop := fnBuiltinTypeNameInjectiveRow.holds Ebog.pinned (OpenSpec.ofChange fnBuiltinTypeNameInjectiveSpec)

/-- ITS FALSE NEIGHBOUR: 'it returns false'. Refute it at one input. -/
def fnBuiltinTypeNameInjectiveWrong : ChangeSpec := { name := "fnBuiltinTypeNameInjective", fn := fun _ => fun
  | [d1, d2] => { results := [.lit (.bool false)], args := [d1, d2] }
  | _ => none }
def FnBuiltinTypeNameInjectiveWrongFalsely : Prop := fnBuiltinTypeNameInjectiveRow.holds Ebog.pinned (OpenSpec.ofChange fnBuiltinTypeNameInjectiveWrong)

/-- 'zzlaws_root_b2.FnBuiltinStringIsFixedText': WHATEVER THE INPUT: true; the input reads as it did. -/
def fnBuiltinStringIsFixedTextSpec : ChangeSpec := { name := "fnBuiltinStringIsFixedText", fn := fun _ => fun
  | [d] => { results := [.lit (.bool true)], args := [d] }
  | _ => none }
def fnBuiltinStringIsFixedTextRow : OpenClaim := { program := "yoebow", sum := "19b822be244ee0557fb69376753dd816e6391152cd6965ece8a0c00da0cd7b0d", func := "github.com/d5/tengo/v2/zzlaws_root_b2.FnBuiltinStringIsFixedText", spec := "fnBuiltinStringIsFixedText", unfollowed := true, recurses := true, apart := false }
def FnBuiltinStringIsFixedTextSaid : Prop := fnBuiltinStringIsFixedTextRow.holds Ebog.pinned (OpenSpec.ofChange fnBuiltinStringIsFixedTextSpec)

/-- ITS FALSE NEIGHBOUR: 'it returns false'. Refute it at one input. -/
def fnBuiltinStringIsFixedTextWrong : ChangeSpec := { name := "fnBuiltinStringIsFixedText", fn := fun _ => fun
  | [d] => { results := [.lit (.bool false)], args := [d] }
  | _ => none }
def FnBuiltinStringIsFixedTextWrongFalsely : Prop := fnBuiltinStringIsFixedTextRow.holds Ebog.pinned (OpenSpec.ofChange fnBuiltinStringIsFixedTextWrong)

/-- 'zzlaws_root_b2.FnBuiltinStringIgnoresName': WHATEVER THE INPUT: true; the input reads as it did. -/
def fnBuiltinStringIgnoresNameSpec : ChangeSpec := { name := "fnBuiltinStringIgnoresName", fn := fun _ => fun
  | [d1, d2] => { results := [.lit (.bool true)], args := [d1, d2] }
  | _ => none }
def fnBuiltinStringIgnoresNameRow : OpenClaim := { program := "yoebow", sum := "19b822be244ee0557fb69376753dd816e6391152cd6965ece8a0c00da0cd7b0d", func := "github.com/d5/tengo/v2/zzlaws_root_b2.FnBuiltinStringIgnoresName", spec := "fnBuiltinStringIgnoresName", apart := false }
def FnBuiltinStringIgnoresNameSaid : Prop := fnBuiltinStringIgnoresNameRow.holds Ebog.pinned (OpenSpec.ofChange fnBuiltinStringIgnoresNameSpec)

/-- ITS FALSE NEIGHBOUR: 'it returns false'. Refute it at one input. -/
def fnBuiltinStringIgnoresNameWrong : ChangeSpec := { name := "fnBuiltinStringIgnoresName", fn := fun _ => fun
  | [d1, d2] => { results := [.lit (.bool false)], args := [d1, d2] }
  | _ => none }
def FnBuiltinStringIgnoresNameWrongFalsely : Prop := fnBuiltinStringIgnoresNameRow.holds Ebog.pinned (OpenSpec.ofChange fnBuiltinStringIgnoresNameWrong)

/-- 'zzlaws_root_b2.FnBuiltinCopyDropsName': WHATEVER THE INPUT: true; the input reads as it did. -/
def fnBuiltinCopyDropsNameSpec : ChangeSpec := { name := "fnBuiltinCopyDropsName", fn := fun _ => fun
  | [d] => { results := [.lit (.bool true)], args := [d] }
  | _ => none }
def fnBuiltinCopyDropsNameRow : OpenClaim := { program := "yoebow", sum := "19b822be244ee0557fb69376753dd816e6391152cd6965ece8a0c00da0cd7b0d", func := "github.com/d5/tengo/v2/zzlaws_root_b2.FnBuiltinCopyDropsName", spec := "fnBuiltinCopyDropsName", unfollowed := true, recurses := true, apart := false }
def FnBuiltinCopyDropsNameSaid : Prop := fnBuiltinCopyDropsNameRow.holds Ebog.pinned (OpenSpec.ofChange fnBuiltinCopyDropsNameSpec)

/-- ITS FALSE NEIGHBOUR: 'it returns false'. Refute it at one input. -/
def fnBuiltinCopyDropsNameWrong : ChangeSpec := { name := "fnBuiltinCopyDropsName", fn := fun _ => fun
  | [d] => { results := [.lit (.bool false)], args := [d] }
  | _ => none }
def FnBuiltinCopyDropsNameWrongFalsely : Prop := fnBuiltinCopyDropsNameRow.holds Ebog.pinned (OpenSpec.ofChange fnBuiltinCopyDropsNameWrong)

/-- 'zzlaws_root_b2.FnBuiltinCopyStable': WHATEVER THE INPUT: true; the input reads as it did. -/
def fnBuiltinCopyStableSpec : ChangeSpec := { name := "fnBuiltinCopyStable", fn := fun _ => fun
  | [d] => { results := [.lit (.bool true)], args := [d] }
  | _ => none }
def fnBuiltinCopyStableRow : OpenClaim := { program := "yoebow", sum := "19b822be244ee0557fb69376753dd816e6391152cd6965ece8a0c00da0cd7b0d", func := "github.com/d5/tengo/v2/zzlaws_root_b2.FnBuiltinCopyStable", spec := "fnBuiltinCopyStable", unfollowed := true, recurses := true, apart := false }
def FnBuiltinCopyStableSaid : Prop := fnBuiltinCopyStableRow.holds Ebog.pinned (OpenSpec.ofChange fnBuiltinCopyStableSpec)

/-- ITS FALSE NEIGHBOUR: 'it returns false'. Refute it at one input. -/
def fnBuiltinCopyStableWrong : ChangeSpec := { name := "fnBuiltinCopyStable", fn := fun _ => fun
  | [d] => { results := [.lit (.bool false)], args := [d] }
  | _ => none }
def FnBuiltinCopyStableWrongFalsely : Prop := fnBuiltinCopyStableRow.holds Ebog.pinned (OpenSpec.ofChange fnBuiltinCopyStableWrong)

/-- 'zzlaws_root_b2.FnBuiltinEqualsCopyNeither': WHATEVER THE INPUT: true; the input reads as it did. -/
def fnBuiltinEqualsCopyNeitherSpec : ChangeSpec := { name := "fnBuiltinEqualsCopyNeither", fn := fun _ => fun
  | [d] => { results := [.lit (.bool true)], args := [d] }
  | _ => none }
def fnBuiltinEqualsCopyNeitherRow : OpenClaim := { program := "yoebow", sum := "19b822be244ee0557fb69376753dd816e6391152cd6965ece8a0c00da0cd7b0d", func := "github.com/d5/tengo/v2/zzlaws_root_b2.FnBuiltinEqualsCopyNeither", spec := "fnBuiltinEqualsCopyNeither", unfollowed := true, recurses := true, apart := false }
def FnBuiltinEqualsCopyNeitherSaid : Prop := fnBuiltinEqualsCopyNeitherRow.holds Ebog.pinned (OpenSpec.ofChange fnBuiltinEqualsCopyNeitherSpec)

/-- ITS FALSE NEIGHBOUR: 'it returns false'. Refute it at one input. -/
def fnBuiltinEqualsCopyNeitherWrong : ChangeSpec := { name := "fnBuiltinEqualsCopyNeither", fn := fun _ => fun
  | [d] => { results := [.lit (.bool false)], args := [d] }
  | _ => none }
def FnBuiltinEqualsCopyNeitherWrongFalsely : Prop := fnBuiltinEqualsCopyNeitherRow.holds Ebog.pinned (OpenSpec.ofChange fnBuiltinEqualsCopyNeitherWrong)

end Rows
end Go.Proofs.Yoebow
