/-
  No cell of these rows narrows 'for every input' (looked for: loops, veiled, ifaces, maps, wideKeys, modest, calm, conditions, laid).
  DERIVED. THE GIVEN ROWS OF THIS SEAT. 3 by the template 'for every input the law returns true; each argument reads behind the call as it read before'; 0 by the template 'total and deterministic' (their statements: Qxb6613208aTotals.lean).
  GIVEN WITH THE SEED: the statements are not yours to turn. If you find one false, say at which input.
  Laid BY PROGRAM, IN A SANDBOX (cutbox-rows.mjs): the forced cells as the released guide's own fill.sh prints them over the translation e7327b2659664339… (all of the seat's roots in one cut). By AI agents, Wed Nov 11 2026. No macro, syntax, notation, axiom, sorry.
-/
import Derived.Test.Qxb6613208aChecked
import GoSem.Claim
import GoSem.ClaimJoined
import GoSem.ClaimMapViews
import Derived.JoinedTies
import Derived.KernelRfl
namespace Go.Proofs.Qxb6613208a
/- THE CELL 'sum', in the pinned program and in every row, IS THE sha256 OF THE DUMP (.gsa) THAT Qxb6613208aProg.lean LOADS. Nothing in Lean hashes anything: it is a label: what it is worth is what the hold of that sum in a sandbox is worth. -/
noncomputable def Try.pinned : Pinned := { name := "qxb6613208a", sum := "e7327b26596643392415b73713290d424cdf458e18877eb4d827aa6844ab4b5a", checked := Try.checked }
namespace Rows
def none {H : Type} : Left H := { results := [], args := [] }

/-- 'zzlaws_root_b1.FnMemcpyFollowsBitOneAlone': WHATEVER THE INPUT: true; the input reads as it did. -/
def fnMemcpyFollowsBitOneAloneSpec : ChangeSpec := { name := "fnMemcpyFollowsBitOneAlone", fn := fun _ => fun
  | [d1, d2, d3, d4, d5, d6, d7, d8] => { results := [.lit (.bool true)], args := [d1, d2, d3, d4, d5, d6, d7, d8] }
  | _ => none }
def fnMemcpyFollowsBitOneAloneRow : OpenClaim := { program := "qxb6613208a", sum := "e7327b26596643392415b73713290d424cdf458e18877eb4d827aa6844ab4b5a", func := "example.com/briskpack/briskpack/zzlaws_root_b1.FnMemcpyFollowsBitOneAlone", spec := "fnMemcpyFollowsBitOneAlone", apart := false }
def FnMemcpyFollowsBitOneAloneSaid : Prop := fnMemcpyFollowsBitOneAloneRow.holds Try.pinned (OpenSpec.ofChange fnMemcpyFollowsBitOneAloneSpec)

/-- ITS FALSE NEIGHBOUR: 'it returns false'. Refute it at one input. -/
def fnMemcpyFollowsBitOneAloneWrong : ChangeSpec := { name := "fnMemcpyFollowsBitOneAlone", fn := fun _ => fun
  | [d1, d2, d3, d4, d5, d6, d7, d8] => { results := [.lit (.bool false)], args := [d1, d2, d3, d4, d5, d6, d7, d8] }
  | _ => none }
def FnMemcpyFollowsBitOneAloneWrongFalsely : Prop := fnMemcpyFollowsBitOneAloneRow.holds Try.pinned (OpenSpec.ofChange fnMemcpyFollowsBitOneAloneWrong)

/-- 'zzlaws_root_b1.FnLoad32SlidesByOneByte': WHATEVER THE INPUT: true; the input reads as it did. -/
def fnLoad32SlidesByOneByteSpec : ChangeSpec := { name := "fnLoad32SlidesByOneByte", fn := fun _ => fun
  | [d1, d2] => { results := [.lit (.bool true)], args := [d1, d2] }
  | _ => none }
def fnLoad32SlidesByOneByteRow : OpenClaim := { program := "qxb6613208a", sum := "e7327b26596643392415b73713290d424cdf458e18877eb4d827aa6844ab4b5a", func := "example.com/briskpack/briskpack/zzlaws_root_b1.FnLoad32SlidesByOneByte", spec := "fnLoad32SlidesByOneByte", named := ["encoding/binary.LittleEndian"], apart := false }
def FnLoad32SlidesByOneByteSaid : Prop := fnLoad32SlidesByOneByteRow.holds Try.pinned (OpenSpec.ofChange fnLoad32SlidesByOneByteSpec)

/-- ITS FALSE NEIGHBOUR: 'it returns false'. Refute it at one input. -/
def fnLoad32SlidesByOneByteWrong : ChangeSpec := { name := "fnLoad32SlidesByOneByte", fn := fun _ => fun
  | [d1, d2] => { results := [.lit (.bool false)], args := [d1, d2] }
  | _ => none }
def FnLoad32SlidesByOneByteWrongFalsely : Prop := fnLoad32SlidesByOneByteRow.holds Try.pinned (OpenSpec.ofChange fnLoad32SlidesByOneByteWrong)

/-- 'zzlaws_root_b1.FnLoad32SeesOnlyItsFourBytes': WHATEVER THE INPUT: true; the input reads as it did. -/
def fnLoad32SeesOnlyItsFourBytesSpec : ChangeSpec := { name := "fnLoad32SeesOnlyItsFourBytes", fn := fun _ => fun
  | [d1, d2, d3, d4] => { results := [.lit (.bool true)], args := [d1, d2, d3, d4] }
  | _ => none }
def fnLoad32SeesOnlyItsFourBytesRow : OpenClaim := { program := "qxb6613208a", sum := "e7327b26596643392415b73713290d424cdf458e18877eb4d827aa6844ab4b5a", func := "example.com/briskpack/briskpack/zzlaws_root_b1.FnLoad32SeesOnlyItsFourBytes", spec := "fnLoad32SeesOnlyItsFourBytes", named := ["encoding/binary.LittleEndian"], apart := false }
def FnLoad32SeesOnlyItsFourBytesSaid : Prop := fnLoad32SeesOnlyItsFourBytesRow.holds Try.pinned (OpenSpec.ofChange fnLoad32SeesOnlyItsFourBytesSpec)

/-- ITS FALSE NEIGHBOUR: 'it returns false'. Refute it at one input. -/
def fnLoad32SeesOnlyItsFourBytesWrong : ChangeSpec := { name := "fnLoad32SeesOnlyItsFourBytes", fn := fun _ => fun
  | [d1, d2, d3, d4] => { results := [.lit (.bool false)], args := [d1, d2, d3, d4] }
  | _ => none }
def FnLoad32SeesOnlyItsFourBytesWrongFalsely : Prop := fnLoad32SeesOnlyItsFourBytesRow.holds Try.pinned (OpenSpec.ofChange fnLoad32SeesOnlyItsFourBytesWrong)

end Rows
end Go.Proofs.Qxb6613208a
