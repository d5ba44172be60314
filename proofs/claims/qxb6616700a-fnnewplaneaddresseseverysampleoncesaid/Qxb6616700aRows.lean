/-
  No cell of these rows narrows 'for every input' (looked for: loops, veiled, ifaces, maps, wideKeys, modest, calm, conditions, laid).
  DERIVED. THE GIVEN ROWS OF THIS SEAT. 3 by the template 'for every input the law returns true; each argument reads behind the call as it read before'; 0 by the template 'total and deterministic' (their statements: Qxb6616700aTotals.lean).
  GIVEN WITH THE SEED: the statements are not yours to turn. If you find one false, say at which input.
  Laid BY PROGRAM, IN A SANDBOX (cutbox-rows.mjs): the forced cells as the released guide's own fill.sh prints them over the translation 4cd46554139db09a… (all of the seat's roots in one cut). By AI agents, Wed Nov 11 2026. No macro, syntax, notation, axiom, sorry.
-/
import Derived.Test.Qxb6616700aChecked
import GoSem.Claim
import GoSem.ClaimJoined
import GoSem.ClaimMapViews
import Derived.JoinedTies
import Derived.KernelRfl
namespace Go.Proofs.Qxb6616700a
/- THE CELL 'sum', in the pinned program and in every row, IS THE sha256 OF THE DUMP (.gsa) THAT Qxb6616700aProg.lean LOADS. Nothing in Lean hashes anything: it is a label: what it is worth is what the hold of that sum in a sandbox is worth. -/
noncomputable def Try.pinned : Pinned := { name := "qxb6616700a", sum := "4cd46554139db09ae0b1109388ef045a4c8df821de5b330ab53841b065bc32c5", checked := Try.checked }
namespace Rows
def none {H : Type} : Left H := { results := [], args := [] }

/-- 'zzlaws_internal_media_b1.FnNewPlaneAddressesEverySampleOnce': WHATEVER THE INPUT: true; the input reads as it did. -/
def fnNewPlaneAddressesEverySampleOnceSpec : ChangeSpec := { name := "fnNewPlaneAddressesEverySampleOnce", fn := fun _ => fun
  | [d1, d2] => { results := [.lit (.bool true)], args := [d1, d2] }
  | _ => none }
def fnNewPlaneAddressesEverySampleOnceRow : OpenClaim := { program := "qxb6616700a", sum := "4cd46554139db09ae0b1109388ef045a4c8df821de5b330ab53841b065bc32c5", func := "example.com/hatchway/hatchway/zzlaws_internal_media_b1.FnNewPlaneAddressesEverySampleOnce", spec := "fnNewPlaneAddressesEverySampleOnce", apart := false }
def FnNewPlaneAddressesEverySampleOnceSaid : Prop := fnNewPlaneAddressesEverySampleOnceRow.holds Try.pinned (OpenSpec.ofChange fnNewPlaneAddressesEverySampleOnceSpec)

/-- ITS FALSE NEIGHBOUR: 'it returns false'. Refute it at one input. -/
def fnNewPlaneAddressesEverySampleOnceWrong : ChangeSpec := { name := "fnNewPlaneAddressesEverySampleOnce", fn := fun _ => fun
  | [d1, d2] => { results := [.lit (.bool false)], args := [d1, d2] }
  | _ => none }
def FnNewPlaneAddressesEverySampleOnceWrongFalsely : Prop := fnNewPlaneAddressesEverySampleOnceRow.holds Try.pinned (OpenSpec.ofChange fnNewPlaneAddressesEverySampleOnceWrong)

/-- 'zzlaws_internal_media_b1.FnRefineDCAddsTheStreamsBitsInOrder': WHATEVER THE INPUT: true; the input reads as it did. -/
def fnRefineDCAddsTheStreamsBitsInOrderSpec : ChangeSpec := { name := "fnRefineDCAddsTheStreamsBitsInOrder", fn := fun _ => fun
  | [d1, d2, d3, d4] => { results := [.lit (.bool true)], args := [d1, d2, d3, d4] }
  | _ => none }
def fnRefineDCAddsTheStreamsBitsInOrderRow : OpenClaim := { program := "qxb6616700a", sum := "4cd46554139db09ae0b1109388ef045a4c8df821de5b330ab53841b065bc32c5", func := "example.com/hatchway/hatchway/zzlaws_internal_media_b1.FnRefineDCAddsTheStreamsBitsInOrder", spec := "fnRefineDCAddsTheStreamsBitsInOrder", unfollowed := true, recurses := true, apart := false }
def FnRefineDCAddsTheStreamsBitsInOrderSaid : Prop := fnRefineDCAddsTheStreamsBitsInOrderRow.holds Try.pinned (OpenSpec.ofChange fnRefineDCAddsTheStreamsBitsInOrderSpec)

/-- ITS FALSE NEIGHBOUR: 'it returns false'. Refute it at one input. -/
def fnRefineDCAddsTheStreamsBitsInOrderWrong : ChangeSpec := { name := "fnRefineDCAddsTheStreamsBitsInOrder", fn := fun _ => fun
  | [d1, d2, d3, d4] => { results := [.lit (.bool false)], args := [d1, d2, d3, d4] }
  | _ => none }
def FnRefineDCAddsTheStreamsBitsInOrderWrongFalsely : Prop := fnRefineDCAddsTheStreamsBitsInOrderRow.holds Try.pinned (OpenSpec.ofChange fnRefineDCAddsTheStreamsBitsInOrderWrong)

/-- 'zzlaws_internal_media_b1.FnRefineDCReadsAJoinedStreamPartByPart': WHATEVER THE INPUT: true; the input reads as it did. -/
def fnRefineDCReadsAJoinedStreamPartByPartSpec : ChangeSpec := { name := "fnRefineDCReadsAJoinedStreamPartByPart", fn := fun _ => fun
  | [d1, d2, d3, d4, d5] => { results := [.lit (.bool true)], args := [d1, d2, d3, d4, d5] }
  | _ => none }
def fnRefineDCReadsAJoinedStreamPartByPartRow : OpenClaim := { program := "qxb6616700a", sum := "4cd46554139db09ae0b1109388ef045a4c8df821de5b330ab53841b065bc32c5", func := "example.com/hatchway/hatchway/zzlaws_internal_media_b1.FnRefineDCReadsAJoinedStreamPartByPart", spec := "fnRefineDCReadsAJoinedStreamPartByPart", unfollowed := true, recurses := true, apart := false }
def FnRefineDCReadsAJoinedStreamPartByPartSaid : Prop := fnRefineDCReadsAJoinedStreamPartByPartRow.holds Try.pinned (OpenSpec.ofChange fnRefineDCReadsAJoinedStreamPartByPartSpec)

/-- ITS FALSE NEIGHBOUR: 'it returns false'. Refute it at one input. -/
def fnRefineDCReadsAJoinedStreamPartByPartWrong : ChangeSpec := { name := "fnRefineDCReadsAJoinedStreamPartByPart", fn := fun _ => fun
  | [d1, d2, d3, d4, d5] => { results := [.lit (.bool false)], args := [d1, d2, d3, d4, d5] }
  | _ => none }
def FnRefineDCReadsAJoinedStreamPartByPartWrongFalsely : Prop := fnRefineDCReadsAJoinedStreamPartByPartRow.holds Try.pinned (OpenSpec.ofChange fnRefineDCReadsAJoinedStreamPartByPartWrong)

end Rows
end Go.Proofs.Qxb6616700a
