/-
  No cell of these rows narrows 'for every input' (looked for: loops, veiled, ifaces, maps, wideKeys, modest, calm, conditions, laid).
  DERIVED. THE GIVEN ROWS OF THIS SEAT. 2 by the template 'for every input the law returns true; each argument reads behind the call as it read before'; 0 by the template 'total and deterministic' (their statements: Qxb6616128aTotals.lean).
  GIVEN WITH THE SEED: the statements are not yours to turn. If you find one false, say at which input.
  Laid BY PROGRAM, IN A SANDBOX (cutbox-rows.mjs): the forced cells as the released guide's own fill.sh prints them over the translation d3cf45b3483b6091… (all of the seat's roots in one cut). By AI agents, Wed Nov 11 2026. No macro, syntax, notation, axiom, sorry.
-/
import Derived.Test.Qxb6616128aChecked
import GoSem.Claim
import GoSem.ClaimJoined
import GoSem.ClaimMapViews
import Derived.JoinedTies
import Derived.KernelRfl
namespace Go.Proofs.Qxb6616128a
/- THE CELL 'sum', in the pinned program and in every row, IS THE sha256 OF THE DUMP (.gsa) THAT Qxb6616128aProg.lean LOADS. Nothing in Lean hashes anything: it is a label: what it is worth is what the hold of that sum in a sandbox is worth. -/
noncomputable def Try.pinned : Pinned := { name := "qxb6616128a", sum := "d3cf45b3483b6091c0566d76ea323e1551a47aabcdf87ddaec840b97a5e17558", checked := Try.checked }
namespace Rows
def none {H : Type} : Left H := { results := [], args := [] }

/-- 'zzlaws_root_b1.FnEventOrderIsTheStableDateSort': WHATEVER THE INPUT: true; the input reads as it did. -/
def fnEventOrderIsTheStableDateSortSpec : ChangeSpec := { name := "fnEventOrderIsTheStableDateSort", fn := fun _ => fun
  | [d] => { results := [.lit (.bool true)], args := [d] }
  | _ => none }
def fnEventOrderIsTheStableDateSortRow : OpenClaim := { program := "qxb6616128a", sum := "d3cf45b3483b6091c0566d76ea323e1551a47aabcdf87ddaec840b97a5e17558", func := "example.com/vestwright/vestwright/zzlaws_root_b1.FnEventOrderIsTheStableDateSort", spec := "fnEventOrderIsTheStableDateSort", inPlace := ["internal/reflectlite.ValueOf", "internal/reflectlite.Swapper", "(internal/reflectlite.Value).Len"], unfollowed := true, recurses := true, apart := false }
def FnEventOrderIsTheStableDateSortSaid : Prop := fnEventOrderIsTheStableDateSortRow.holds Try.pinned (OpenSpec.ofChange fnEventOrderIsTheStableDateSortSpec)

/-- ITS FALSE NEIGHBOUR: 'it returns false'. Refute it at one input. -/
def fnEventOrderIsTheStableDateSortWrong : ChangeSpec := { name := "fnEventOrderIsTheStableDateSort", fn := fun _ => fun
  | [d] => { results := [.lit (.bool false)], args := [d] }
  | _ => none }
def FnEventOrderIsTheStableDateSortWrongFalsely : Prop := fnEventOrderIsTheStableDateSortRow.holds Try.pinned (OpenSpec.ofChange fnEventOrderIsTheStableDateSortWrong)

/-- 'zzlaws_root_b1.FnEventOrderOfSortedEventsIsIdentity': WHATEVER THE INPUT: true; the input reads as it did. -/
def fnEventOrderOfSortedEventsIsIdentitySpec : ChangeSpec := { name := "fnEventOrderOfSortedEventsIsIdentity", fn := fun _ => fun
  | [d] => { results := [.lit (.bool true)], args := [d] }
  | _ => none }
def fnEventOrderOfSortedEventsIsIdentityRow : OpenClaim := { program := "qxb6616128a", sum := "d3cf45b3483b6091c0566d76ea323e1551a47aabcdf87ddaec840b97a5e17558", func := "example.com/vestwright/vestwright/zzlaws_root_b1.FnEventOrderOfSortedEventsIsIdentity", spec := "fnEventOrderOfSortedEventsIsIdentity", inPlace := ["internal/reflectlite.ValueOf", "internal/reflectlite.Swapper", "(internal/reflectlite.Value).Len"], unfollowed := true, recurses := true, apart := false }
def FnEventOrderOfSortedEventsIsIdentitySaid : Prop := fnEventOrderOfSortedEventsIsIdentityRow.holds Try.pinned (OpenSpec.ofChange fnEventOrderOfSortedEventsIsIdentitySpec)

/-- ITS FALSE NEIGHBOUR: 'it returns false'. Refute it at one input. -/
def fnEventOrderOfSortedEventsIsIdentityWrong : ChangeSpec := { name := "fnEventOrderOfSortedEventsIsIdentity", fn := fun _ => fun
  | [d] => { results := [.lit (.bool false)], args := [d] }
  | _ => none }
def FnEventOrderOfSortedEventsIsIdentityWrongFalsely : Prop := fnEventOrderOfSortedEventsIsIdentityRow.holds Try.pinned (OpenSpec.ofChange fnEventOrderOfSortedEventsIsIdentityWrong)

end Rows
end Go.Proofs.Qxb6616128a
