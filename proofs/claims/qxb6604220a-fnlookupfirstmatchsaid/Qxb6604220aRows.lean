/-
  No cell of these rows narrows 'for every input' (looked for: loops, veiled, ifaces, maps, wideKeys, modest, calm, conditions, laid).
  DERIVED. THE GIVEN ROWS OF THIS SEAT. 2 by the template 'for every input the law returns true; each argument reads behind the call as it read before'; 0 by the template 'total and deterministic' (their statements: Qxb6604220aTotals.lean).
  GIVEN WITH THE SEED: the statements are not yours to turn. If you find one false, say at which input.
  Laid BY PROGRAM, IN A SANDBOX (cutbox-rows.mjs): the forced cells as the released guide's own fill.sh prints them over the translation 237f98cab5b556aa… (all of the seat's roots in one cut). By AI agents, Wed Nov 11 2026. No macro, syntax, notation, axiom, sorry.
-/
import Derived.Test.Qxb6604220aChecked
import GoSem.Claim
import GoSem.ClaimJoined
import GoSem.ClaimMapViews
import Derived.JoinedTies
import Derived.KernelRfl
namespace Go.Proofs.Qxb6604220a
/- THE CELL 'sum', in the pinned program and in every row, IS THE sha256 OF THE DUMP (.gsa) THAT Qxb6604220aProg.lean LOADS. Nothing in Lean hashes anything: it is a label: what it is worth is what the hold of that sum in a sandbox is worth. -/
noncomputable def Try.pinned : Pinned := { name := "qxb6604220a", sum := "237f98cab5b556aabbd59bd56db41cdc1bb001da4bba0647d26472e2cfc54673", checked := Try.checked }
namespace Rows
def none {H : Type} : Left H := { results := [], args := [] }

/-- 'zzlaws_engine_b1.FnLookupOverActorFields': WHATEVER THE INPUT: true; the input reads as it did. -/
def fnLookupOverActorFieldsSpec : ChangeSpec := { name := "fnLookupOverActorFields", fn := fun _ => fun
  | [d1, d2, d3, d4, d5] => { results := [.lit (.bool true)], args := [d1, d2, d3, d4, d5] }
  | _ => none }
def fnLookupOverActorFieldsRow : OpenClaim := { program := "qxb6604220a", sum := "237f98cab5b556aabbd59bd56db41cdc1bb001da4bba0647d26472e2cfc54673", func := "example.com/scopeward/scopeward/zzlaws_engine_b1.FnLookupOverActorFields", spec := "fnLookupOverActorFields", apart := false }
def FnLookupOverActorFieldsSaid : Prop := fnLookupOverActorFieldsRow.holds Try.pinned (OpenSpec.ofChange fnLookupOverActorFieldsSpec)

/-- ITS FALSE NEIGHBOUR: 'it returns false'. Refute it at one input. -/
def fnLookupOverActorFieldsWrong : ChangeSpec := { name := "fnLookupOverActorFields", fn := fun _ => fun
  | [d1, d2, d3, d4, d5] => { results := [.lit (.bool false)], args := [d1, d2, d3, d4, d5] }
  | _ => none }
def FnLookupOverActorFieldsWrongFalsely : Prop := fnLookupOverActorFieldsRow.holds Try.pinned (OpenSpec.ofChange fnLookupOverActorFieldsWrong)

/-- 'zzlaws_engine_b1.FnLookupFirstMatch': WHATEVER THE INPUT: true; the input reads as it did. -/
def fnLookupFirstMatchSpec : ChangeSpec := { name := "fnLookupFirstMatch", fn := fun _ => fun
  | [d1, d2, d3] => { results := [.lit (.bool true)], args := [d1, d2, d3] }
  | _ => none }
def fnLookupFirstMatchRow : OpenClaim := { program := "qxb6604220a", sum := "237f98cab5b556aabbd59bd56db41cdc1bb001da4bba0647d26472e2cfc54673", func := "example.com/scopeward/scopeward/zzlaws_engine_b1.FnLookupFirstMatch", spec := "fnLookupFirstMatch", apart := false }
def FnLookupFirstMatchSaid : Prop := fnLookupFirstMatchRow.holds Try.pinned (OpenSpec.ofChange fnLookupFirstMatchSpec)

/-- ITS FALSE NEIGHBOUR: 'it returns false'. Refute it at one input. -/
def fnLookupFirstMatchWrong : ChangeSpec := { name := "fnLookupFirstMatch", fn := fun _ => fun
  | [d1, d2, d3] => { results := [.lit (.bool false)], args := [d1, d2, d3] }
  | _ => none }
def FnLookupFirstMatchWrongFalsely : Prop := fnLookupFirstMatchRow.holds Try.pinned (OpenSpec.ofChange fnLookupFirstMatchWrong)

end Rows
end Go.Proofs.Qxb6604220a
