/-
  No cell of these rows narrows 'for every input' (looked for: loops, veiled, ifaces, maps, wideKeys, modest, calm, conditions, laid).
  DERIVED. THE GIVEN ROWS OF THIS SEAT. 4 by the template 'for every input the law returns true; each argument reads behind the call as it read before'; 0 by the template 'total and deterministic' (their statements: Qxb6601247aTotals.lean).
  GIVEN WITH THE SEED: the statements are not yours to turn. If you find one false, say at which input.
  Laid BY PROGRAM, IN A SANDBOX (cutbox-rows.mjs): the forced cells as the released guide's own fill.sh prints them over the translation 015b6e009ca64441… (all of the seat's roots in one cut). By AI agents, Wed Nov 11 2026. No macro, syntax, notation, axiom, sorry.
-/
import Derived.Test.Qxb6601247aChecked
import GoSem.Claim
import GoSem.ClaimJoined
import GoSem.ClaimMapViews
import Derived.JoinedTies
import Derived.KernelRfl
namespace Go.Proofs.Qxb6601247a
/- THE CELL 'sum', in the pinned program and in every row, IS THE sha256 OF THE DUMP (.gsa) THAT Qxb6601247aProg.lean LOADS. Nothing in Lean hashes anything: it is a label: what it is worth is what the hold of that sum in a sandbox is worth. -/
noncomputable def Try.pinned : Pinned := { name := "qxb6601247a", sum := "015b6e009ca64441b7a9c444ac84cdb6072d9b308e2cbb193e294b01c691e18c", checked := Try.checked }
namespace Rows
def none {H : Type} : Left H := { results := [], args := [] }

/-- 'zzlaws_root_b1.FnDecoderReasonKeepsFirst160Characters': WHATEVER THE INPUT: true; the input reads as it did. -/
def fnDecoderReasonKeepsFirst160CharactersSpec : ChangeSpec := { name := "fnDecoderReasonKeepsFirst160Characters", fn := fun _ => fun
  | [d] => { results := [.lit (.bool true)], args := [d] }
  | _ => none }
def fnDecoderReasonKeepsFirst160CharactersRow : OpenClaim := { program := "qxb6601247a", sum := "015b6e009ca64441b7a9c444ac84cdb6072d9b308e2cbb193e294b01c691e18c", func := "example.com/tuoguan/tuoguan/zzlaws_root_b1.FnDecoderReasonKeepsFirst160Characters", spec := "fnDecoderReasonKeepsFirst160Characters", apart := false }
def FnDecoderReasonKeepsFirst160CharactersSaid : Prop := fnDecoderReasonKeepsFirst160CharactersRow.holds Try.pinned (OpenSpec.ofChange fnDecoderReasonKeepsFirst160CharactersSpec)

/-- ITS FALSE NEIGHBOUR: 'it returns false'. Refute it at one input. -/
def fnDecoderReasonKeepsFirst160CharactersWrong : ChangeSpec := { name := "fnDecoderReasonKeepsFirst160Characters", fn := fun _ => fun
  | [d] => { results := [.lit (.bool false)], args := [d] }
  | _ => none }
def FnDecoderReasonKeepsFirst160CharactersWrongFalsely : Prop := fnDecoderReasonKeepsFirst160CharactersRow.holds Try.pinned (OpenSpec.ofChange fnDecoderReasonKeepsFirst160CharactersWrong)

/-- 'zzlaws_root_b1.FnDecoderReasonIsIdempotent': WHATEVER THE INPUT: true; the input reads as it did. -/
def fnDecoderReasonIsIdempotentSpec : ChangeSpec := { name := "fnDecoderReasonIsIdempotent", fn := fun _ => fun
  | [d] => { results := [.lit (.bool true)], args := [d] }
  | _ => none }
def fnDecoderReasonIsIdempotentRow : OpenClaim := { program := "qxb6601247a", sum := "015b6e009ca64441b7a9c444ac84cdb6072d9b308e2cbb193e294b01c691e18c", func := "example.com/tuoguan/tuoguan/zzlaws_root_b1.FnDecoderReasonIsIdempotent", spec := "fnDecoderReasonIsIdempotent", apart := false }
def FnDecoderReasonIsIdempotentSaid : Prop := fnDecoderReasonIsIdempotentRow.holds Try.pinned (OpenSpec.ofChange fnDecoderReasonIsIdempotentSpec)

/-- ITS FALSE NEIGHBOUR: 'it returns false'. Refute it at one input. -/
def fnDecoderReasonIsIdempotentWrong : ChangeSpec := { name := "fnDecoderReasonIsIdempotent", fn := fun _ => fun
  | [d] => { results := [.lit (.bool false)], args := [d] }
  | _ => none }
def FnDecoderReasonIsIdempotentWrongFalsely : Prop := fnDecoderReasonIsIdempotentRow.holds Try.pinned (OpenSpec.ofChange fnDecoderReasonIsIdempotentWrong)

/-- 'zzlaws_root_b1.FnSecurityPiecesTileTheText': WHATEVER THE INPUT: true; the input reads as it did. -/
def fnSecurityPiecesTileTheTextSpec : ChangeSpec := { name := "fnSecurityPiecesTileTheText", fn := fun _ => fun
  | [d1, d2] => { results := [.lit (.bool true)], args := [d1, d2] }
  | _ => none }
def fnSecurityPiecesTileTheTextRow : OpenClaim := { program := "qxb6601247a", sum := "015b6e009ca64441b7a9c444ac84cdb6072d9b308e2cbb193e294b01c691e18c", func := "example.com/tuoguan/tuoguan/zzlaws_root_b1.FnSecurityPiecesTileTheText", spec := "fnSecurityPiecesTileTheText", apart := false }
def FnSecurityPiecesTileTheTextSaid : Prop := fnSecurityPiecesTileTheTextRow.holds Try.pinned (OpenSpec.ofChange fnSecurityPiecesTileTheTextSpec)

/-- ITS FALSE NEIGHBOUR: 'it returns false'. Refute it at one input. -/
def fnSecurityPiecesTileTheTextWrong : ChangeSpec := { name := "fnSecurityPiecesTileTheText", fn := fun _ => fun
  | [d1, d2] => { results := [.lit (.bool false)], args := [d1, d2] }
  | _ => none }
def FnSecurityPiecesTileTheTextWrongFalsely : Prop := fnSecurityPiecesTileTheTextRow.holds Try.pinned (OpenSpec.ofChange fnSecurityPiecesTileTheTextWrong)

/-- 'zzlaws_root_b1.FnSecurityRecoversEachPackedName': WHATEVER THE INPUT: true; the input reads as it did. -/
def fnSecurityRecoversEachPackedNameSpec : ChangeSpec := { name := "fnSecurityRecoversEachPackedName", fn := fun _ => fun
  | [d] => { results := [.lit (.bool true)], args := [d] }
  | _ => none }
def fnSecurityRecoversEachPackedNameRow : OpenClaim := { program := "qxb6601247a", sum := "015b6e009ca64441b7a9c444ac84cdb6072d9b308e2cbb193e294b01c691e18c", func := "example.com/tuoguan/tuoguan/zzlaws_root_b1.FnSecurityRecoversEachPackedName", spec := "fnSecurityRecoversEachPackedName", apart := false }
def FnSecurityRecoversEachPackedNameSaid : Prop := fnSecurityRecoversEachPackedNameRow.holds Try.pinned (OpenSpec.ofChange fnSecurityRecoversEachPackedNameSpec)

/-- ITS FALSE NEIGHBOUR: 'it returns false'. Refute it at one input. -/
def fnSecurityRecoversEachPackedNameWrong : ChangeSpec := { name := "fnSecurityRecoversEachPackedName", fn := fun _ => fun
  | [d] => { results := [.lit (.bool false)], args := [d] }
  | _ => none }
def FnSecurityRecoversEachPackedNameWrongFalsely : Prop := fnSecurityRecoversEachPackedNameRow.holds Try.pinned (OpenSpec.ofChange fnSecurityRecoversEachPackedNameWrong)

end Rows
end Go.Proofs.Qxb6601247a
