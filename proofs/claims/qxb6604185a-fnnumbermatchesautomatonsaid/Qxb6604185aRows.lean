/-
  No cell of these rows narrows 'for every input' (looked for: loops, veiled, ifaces, maps, wideKeys, modest, calm, conditions, laid).
  DERIVED. THE GIVEN ROWS OF THIS SEAT. 3 by the template 'for every input the law returns true; each argument reads behind the call as it read before'; 0 by the template 'total and deterministic' (their statements: Qxb6604185aTotals.lean).
  GIVEN WITH THE SEED: the statements are not yours to turn. If you find one false, say at which input.
  Laid BY PROGRAM, IN A SANDBOX (cutbox-rows.mjs): the forced cells as the released guide's own fill.sh prints them over the translation 6b453081f6dfbc50… (all of the seat's roots in one cut). By AI agents, Wed Nov 11 2026. No macro, syntax, notation, axiom, sorry.
-/
import Derived.Test.Qxb6604185aChecked
import GoSem.Claim
import GoSem.ClaimJoined
import GoSem.ClaimMapViews
import Derived.JoinedTies
import Derived.KernelRfl
namespace Go.Proofs.Qxb6604185a
/- THE CELL 'sum', in the pinned program and in every row, IS THE sha256 OF THE DUMP (.gsa) THAT Qxb6604185aProg.lean LOADS. Nothing in Lean hashes anything: it is a label: what it is worth is what the hold of that sum in a sandbox is worth. -/
noncomputable def Try.pinned : Pinned := { name := "qxb6604185a", sum := "6b453081f6dfbc504f7f8dc4e0fa3207597d0998f2f66dd7d35f23e6badbed6d", checked := Try.checked }
namespace Rows
def none {H : Type} : Left H := { results := [], args := [] }

/-- 'zzlaws_internal_entry_b1.FnNumberMatchesAutomaton': WHATEVER THE INPUT: true; the input reads as it did. -/
def fnNumberMatchesAutomatonSpec : ChangeSpec := { name := "fnNumberMatchesAutomaton", fn := fun _ => fun
  | [d1, d2, d3, d4, d5] => { results := [.lit (.bool true)], args := [d1, d2, d3, d4, d5] }
  | _ => none }
def fnNumberMatchesAutomatonRow : OpenClaim := { program := "qxb6604185a", sum := "6b453081f6dfbc504f7f8dc4e0fa3207597d0998f2f66dd7d35f23e6badbed6d", func := "example.com/ledgerline/ledgerline/zzlaws_internal_entry_b1.FnNumberMatchesAutomaton", spec := "fnNumberMatchesAutomaton", apart := false }
def FnNumberMatchesAutomatonSaid : Prop := fnNumberMatchesAutomatonRow.holds Try.pinned (OpenSpec.ofChange fnNumberMatchesAutomatonSpec)

/-- ITS FALSE NEIGHBOUR: 'it returns false'. Refute it at one input. -/
def fnNumberMatchesAutomatonWrong : ChangeSpec := { name := "fnNumberMatchesAutomaton", fn := fun _ => fun
  | [d1, d2, d3, d4, d5] => { results := [.lit (.bool false)], args := [d1, d2, d3, d4, d5] }
  | _ => none }
def FnNumberMatchesAutomatonWrongFalsely : Prop := fnNumberMatchesAutomatonRow.holds Try.pinned (OpenSpec.ofChange fnNumberMatchesAutomatonWrong)

/-- 'zzlaws_internal_entry_b1.FnNameSetAddReportsFirstSight': WHATEVER THE INPUT: true; the input reads as it did. -/
def fnNameSetAddReportsFirstSightSpec : ChangeSpec := { name := "fnNameSetAddReportsFirstSight", fn := fun _ => fun
  | [d] => { results := [.lit (.bool true)], args := [d] }
  | _ => none }
def fnNameSetAddReportsFirstSightRow : OpenClaim := { program := "qxb6604185a", sum := "6b453081f6dfbc504f7f8dc4e0fa3207597d0998f2f66dd7d35f23e6badbed6d", func := "example.com/ledgerline/ledgerline/zzlaws_internal_entry_b1.FnNameSetAddReportsFirstSight", spec := "fnNameSetAddReportsFirstSight", apart := false }
def FnNameSetAddReportsFirstSightSaid : Prop := fnNameSetAddReportsFirstSightRow.holds Try.pinned (OpenSpec.ofChange fnNameSetAddReportsFirstSightSpec)

/-- ITS FALSE NEIGHBOUR: 'it returns false'. Refute it at one input. -/
def fnNameSetAddReportsFirstSightWrong : ChangeSpec := { name := "fnNameSetAddReportsFirstSight", fn := fun _ => fun
  | [d] => { results := [.lit (.bool false)], args := [d] }
  | _ => none }
def FnNameSetAddReportsFirstSightWrongFalsely : Prop := fnNameSetAddReportsFirstSightRow.holds Try.pinned (OpenSpec.ofChange fnNameSetAddReportsFirstSightWrong)

/-- 'zzlaws_internal_entry_b1.FnNameSetRefusesEveryNameTwice': WHATEVER THE INPUT: true; the input reads as it did. -/
def fnNameSetRefusesEveryNameTwiceSpec : ChangeSpec := { name := "fnNameSetRefusesEveryNameTwice", fn := fun _ => fun
  | [d1, d2] => { results := [.lit (.bool true)], args := [d1, d2] }
  | _ => none }
def fnNameSetRefusesEveryNameTwiceRow : OpenClaim := { program := "qxb6604185a", sum := "6b453081f6dfbc504f7f8dc4e0fa3207597d0998f2f66dd7d35f23e6badbed6d", func := "example.com/ledgerline/ledgerline/zzlaws_internal_entry_b1.FnNameSetRefusesEveryNameTwice", spec := "fnNameSetRefusesEveryNameTwice", apart := false }
def FnNameSetRefusesEveryNameTwiceSaid : Prop := fnNameSetRefusesEveryNameTwiceRow.holds Try.pinned (OpenSpec.ofChange fnNameSetRefusesEveryNameTwiceSpec)

/-- ITS FALSE NEIGHBOUR: 'it returns false'. Refute it at one input. -/
def fnNameSetRefusesEveryNameTwiceWrong : ChangeSpec := { name := "fnNameSetRefusesEveryNameTwice", fn := fun _ => fun
  | [d1, d2] => { results := [.lit (.bool false)], args := [d1, d2] }
  | _ => none }
def FnNameSetRefusesEveryNameTwiceWrongFalsely : Prop := fnNameSetRefusesEveryNameTwiceRow.holds Try.pinned (OpenSpec.ofChange fnNameSetRefusesEveryNameTwiceWrong)

end Rows
end Go.Proofs.Qxb6604185a
