/-
  No cell of these rows narrows 'for every input' (looked for: loops, veiled, ifaces, maps, wideKeys, modest, calm, conditions, laid).
  DERIVED. THE GIVEN ROWS OF THIS SEAT. 3 by the template 'for every input the law returns true; each argument reads behind the call as it read before'; 0 by the template 'total and deterministic' (their statements: Qxb6604283aTotals.lean).
  GIVEN WITH THE SEED: the statements are not yours to turn. If you find one false, say at which input.
  Laid BY PROGRAM, IN A SANDBOX (cutbox-rows.mjs): the forced cells as the released guide's own fill.sh prints them over the translation bd53dc28c3fcb0bc… (all of the seat's roots in one cut). By AI agents, Wed Nov 11 2026. No macro, syntax, notation, axiom, sorry.
-/
import Derived.Test.Qxb6604283aChecked
import GoSem.Claim
import GoSem.ClaimJoined
import GoSem.ClaimMapViews
import Derived.JoinedTies
import Derived.KernelRfl
namespace Go.Proofs.Qxb6604283a
/- THE CELL 'sum', in the pinned program and in every row, IS THE sha256 OF THE DUMP (.gsa) THAT Qxb6604283aProg.lean LOADS. Nothing in Lean hashes anything: it is a label: what it is worth is what the hold of that sum in a sandbox is worth. -/
noncomputable def Try.pinned : Pinned := { name := "qxb6604283a", sum := "bd53dc28c3fcb0bc66a4a8675181d53986026858c171c1014bf43f89efb60a2a", checked := Try.checked }
namespace Rows
def none {H : Type} : Left H := { results := [], args := [] }

/-- 'zzlaws_ber_b1.FnAppendElementDecodesToItsInputs': WHATEVER THE INPUT: true; the input reads as it did. -/
def fnAppendElementDecodesToItsInputsSpec : ChangeSpec := { name := "fnAppendElementDecodesToItsInputs", fn := fun _ => fun
  | [d1, d2, d3, d4, d5] => { results := [.lit (.bool true)], args := [d1, d2, d3, d4, d5] }
  | _ => none }
def fnAppendElementDecodesToItsInputsRow : OpenClaim := { program := "qxb6604283a", sum := "bd53dc28c3fcb0bc66a4a8675181d53986026858c171c1014bf43f89efb60a2a", func := "example.com/roamwire/roamwire/zzlaws_ber_b1.FnAppendElementDecodesToItsInputs", spec := "fnAppendElementDecodesToItsInputs", apart := false }
def FnAppendElementDecodesToItsInputsSaid : Prop := fnAppendElementDecodesToItsInputsRow.holds Try.pinned (OpenSpec.ofChange fnAppendElementDecodesToItsInputsSpec)

/-- ITS FALSE NEIGHBOUR: 'it returns false'. Refute it at one input. -/
def fnAppendElementDecodesToItsInputsWrong : ChangeSpec := { name := "fnAppendElementDecodesToItsInputs", fn := fun _ => fun
  | [d1, d2, d3, d4, d5] => { results := [.lit (.bool false)], args := [d1, d2, d3, d4, d5] }
  | _ => none }
def FnAppendElementDecodesToItsInputsWrongFalsely : Prop := fnAppendElementDecodesToItsInputsRow.holds Try.pinned (OpenSpec.ofChange fnAppendElementDecodesToItsInputsWrong)

/-- 'zzlaws_ber_b1.FnAppendElementPrefixFreeAndInjective': WHATEVER THE INPUT: true; the input reads as it did. -/
def fnAppendElementPrefixFreeAndInjectiveSpec : ChangeSpec := { name := "fnAppendElementPrefixFreeAndInjective", fn := fun _ => fun
  | [d1, d2, d3, d4, d5, d6, d7, d8] => { results := [.lit (.bool true)], args := [d1, d2, d3, d4, d5, d6, d7, d8] }
  | _ => none }
def fnAppendElementPrefixFreeAndInjectiveRow : OpenClaim := { program := "qxb6604283a", sum := "bd53dc28c3fcb0bc66a4a8675181d53986026858c171c1014bf43f89efb60a2a", func := "example.com/roamwire/roamwire/zzlaws_ber_b1.FnAppendElementPrefixFreeAndInjective", spec := "fnAppendElementPrefixFreeAndInjective", apart := false }
def FnAppendElementPrefixFreeAndInjectiveSaid : Prop := fnAppendElementPrefixFreeAndInjectiveRow.holds Try.pinned (OpenSpec.ofChange fnAppendElementPrefixFreeAndInjectiveSpec)

/-- ITS FALSE NEIGHBOUR: 'it returns false'. Refute it at one input. -/
def fnAppendElementPrefixFreeAndInjectiveWrong : ChangeSpec := { name := "fnAppendElementPrefixFreeAndInjective", fn := fun _ => fun
  | [d1, d2, d3, d4, d5, d6, d7, d8] => { results := [.lit (.bool false)], args := [d1, d2, d3, d4, d5, d6, d7, d8] }
  | _ => none }
def FnAppendElementPrefixFreeAndInjectiveWrongFalsely : Prop := fnAppendElementPrefixFreeAndInjectiveRow.holds Try.pinned (OpenSpec.ofChange fnAppendElementPrefixFreeAndInjectiveWrong)

/-- 'zzlaws_ber_b1.FnElementAppendLeavesInputAlone': WHATEVER THE INPUT: true; the input reads as it did. -/
def fnElementAppendLeavesInputAloneSpec : ChangeSpec := { name := "fnElementAppendLeavesInputAlone", fn := fun _ => fun
  | [d1, d2, d3, d4, d5, d6, d7, d8, d9, d10, d11] => { results := [.lit (.bool true)], args := [d1, d2, d3, d4, d5, d6, d7, d8, d9, d10, d11] }
  | _ => none }
def fnElementAppendLeavesInputAloneRow : OpenClaim := { program := "qxb6604283a", sum := "bd53dc28c3fcb0bc66a4a8675181d53986026858c171c1014bf43f89efb60a2a", func := "example.com/roamwire/roamwire/zzlaws_ber_b1.FnElementAppendLeavesInputAlone", spec := "fnElementAppendLeavesInputAlone", apart := false }
def FnElementAppendLeavesInputAloneSaid : Prop := fnElementAppendLeavesInputAloneRow.holds Try.pinned (OpenSpec.ofChange fnElementAppendLeavesInputAloneSpec)

/-- ITS FALSE NEIGHBOUR: 'it returns false'. Refute it at one input. -/
def fnElementAppendLeavesInputAloneWrong : ChangeSpec := { name := "fnElementAppendLeavesInputAlone", fn := fun _ => fun
  | [d1, d2, d3, d4, d5, d6, d7, d8, d9, d10, d11] => { results := [.lit (.bool false)], args := [d1, d2, d3, d4, d5, d6, d7, d8, d9, d10, d11] }
  | _ => none }
def FnElementAppendLeavesInputAloneWrongFalsely : Prop := fnElementAppendLeavesInputAloneRow.holds Try.pinned (OpenSpec.ofChange fnElementAppendLeavesInputAloneWrong)

end Rows
end Go.Proofs.Qxb6604283a
