/-
  No cell of these rows narrows 'for every input' (looked for: loops, veiled, ifaces, maps, wideKeys, modest, calm, conditions, laid).
  DERIVED. THE GIVEN ROWS OF THIS SEAT. 2 by the template 'for every input the law returns true; each argument reads behind the call as it read before'; 0 by the template 'total and deterministic' (their statements: Qxb6001210aTotals.lean).
  GIVEN WITH THE SEED: the statements are not yours to turn. If you find one false, say at which input.
  Laid BY PROGRAM, IN A SANDBOX (cutbox-rows.mjs): the forced cells as the released guide's own fill.sh prints them over the translation 8e6d4678697cd6e7… (all of the seat's roots in one cut). By AI agents, Wed Nov 11 2026. No macro, syntax, notation, axiom, sorry.
-/
import Derived.Test.Qxb6001210aChecked
import GoSem.Claim
import GoSem.ClaimJoined
import GoSem.ClaimMapViews
import Derived.JoinedTies
import Derived.KernelRfl
namespace Go.Proofs.Qxb6001210a
/- THE CELL 'sum', in the pinned program and in every row, IS THE sha256 OF THE DUMP (.gsa) THAT Qxb6001210aProg.lean LOADS. Nothing in Lean hashes anything: it is a label: what it is worth is what the hold of that sum in a sandbox is worth. -/
noncomputable def Try.pinned : Pinned := { name := "qxb6001210a", sum := "8e6d4678697cd6e7938d9f6f7607f731f2e88535db1fd7144d956127919411c7", checked := Try.checked }
namespace Rows
def none {H : Type} : Left H := { results := [], args := [] }

/-- 'zzlaws_internal_oauth_b1.FnNotUnreservedMatchesRFC3986Listing': WHATEVER THE INPUT: true; the input reads as it did. -/
def fnNotUnreservedMatchesRFC3986ListingSpec : ChangeSpec := { name := "fnNotUnreservedMatchesRFC3986Listing", fn := fun _ => fun
  | [d] => { results := [.lit (.bool true)], args := [d] }
  | _ => none }
def fnNotUnreservedMatchesRFC3986ListingRow : OpenClaim := { program := "qxb6001210a", sum := "8e6d4678697cd6e7938d9f6f7607f731f2e88535db1fd7144d956127919411c7", func := "example.com/polite-doorman/polite-doorman/zzlaws_internal_oauth_b1.FnNotUnreservedMatchesRFC3986Listing", spec := "fnNotUnreservedMatchesRFC3986Listing", inPlace := ["internal/bytealg.IndexByteString", "internal/bytealg.IndexString"], named := ["internal/bytealg.MaxLen"], apart := false }
def FnNotUnreservedMatchesRFC3986ListingSaid : Prop := fnNotUnreservedMatchesRFC3986ListingRow.holds Try.pinned (OpenSpec.ofChange fnNotUnreservedMatchesRFC3986ListingSpec)

/-- ITS FALSE NEIGHBOUR: 'it returns false'. Refute it at one input. -/
def fnNotUnreservedMatchesRFC3986ListingWrong : ChangeSpec := { name := "fnNotUnreservedMatchesRFC3986Listing", fn := fun _ => fun
  | [d] => { results := [.lit (.bool false)], args := [d] }
  | _ => none }
def FnNotUnreservedMatchesRFC3986ListingWrongFalsely : Prop := fnNotUnreservedMatchesRFC3986ListingRow.holds Try.pinned (OpenSpec.ofChange fnNotUnreservedMatchesRFC3986ListingWrong)

/-- 'zzlaws_internal_oauth_b1.FnNotUnreservedRefusesBeyondASCII': WHATEVER THE INPUT: true; the input reads as it did. -/
def fnNotUnreservedRefusesBeyondASCIISpec : ChangeSpec := { name := "fnNotUnreservedRefusesBeyondASCII", fn := fun _ => fun
  | [d] => { results := [.lit (.bool true)], args := [d] }
  | _ => none }
def fnNotUnreservedRefusesBeyondASCIIRow : OpenClaim := { program := "qxb6001210a", sum := "8e6d4678697cd6e7938d9f6f7607f731f2e88535db1fd7144d956127919411c7", func := "example.com/polite-doorman/polite-doorman/zzlaws_internal_oauth_b1.FnNotUnreservedRefusesBeyondASCII", spec := "fnNotUnreservedRefusesBeyondASCII", inPlace := ["internal/bytealg.IndexByteString", "internal/bytealg.IndexString"], named := ["internal/bytealg.MaxLen"], apart := false }
def FnNotUnreservedRefusesBeyondASCIISaid : Prop := fnNotUnreservedRefusesBeyondASCIIRow.holds Try.pinned (OpenSpec.ofChange fnNotUnreservedRefusesBeyondASCIISpec)

/-- ITS FALSE NEIGHBOUR: 'it returns false'. Refute it at one input. -/
def fnNotUnreservedRefusesBeyondASCIIWrong : ChangeSpec := { name := "fnNotUnreservedRefusesBeyondASCII", fn := fun _ => fun
  | [d] => { results := [.lit (.bool false)], args := [d] }
  | _ => none }
def FnNotUnreservedRefusesBeyondASCIIWrongFalsely : Prop := fnNotUnreservedRefusesBeyondASCIIRow.holds Try.pinned (OpenSpec.ofChange fnNotUnreservedRefusesBeyondASCIIWrong)

end Rows
end Go.Proofs.Qxb6001210a
