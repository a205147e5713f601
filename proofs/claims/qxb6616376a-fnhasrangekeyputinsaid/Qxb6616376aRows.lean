/-
  No cell of these rows narrows 'for every input' (looked for: loops, veiled, ifaces, maps, wideKeys, modest, calm, conditions, laid).
  DERIVED. THE GIVEN ROWS OF THIS SEAT. 3 by the template 'for every input the law returns true; each argument reads behind the call as it read before'; 0 by the template 'total and deterministic' (their statements: Qxb6616376aTotals.lean).
  GIVEN WITH THE SEED: the statements are not yours to turn. If you find one false, say at which input.
  Laid BY PROGRAM, IN A SANDBOX (cutbox-rows.mjs): the forced cells as the released guide's own fill.sh prints them over the translation bf4d55d4f93805c8… (all of the seat's roots in one cut). By AI agents, Wed Nov 11 2026. No macro, syntax, notation, axiom, sorry.
-/
import Derived.Test.Qxb6616376aChecked
import GoSem.Claim
import GoSem.ClaimJoined
import GoSem.ClaimMapViews
import Derived.JoinedTies
import Derived.KernelRfl
namespace Go.Proofs.Qxb6616376a
/- THE CELL 'sum', in the pinned program and in every row, IS THE sha256 OF THE DUMP (.gsa) THAT Qxb6616376aProg.lean LOADS. Nothing in Lean hashes anything: it is a label: what it is worth is what the hold of that sum in a sandbox is worth. -/
noncomputable def Try.pinned : Pinned := { name := "qxb6616376a", sum := "bf4d55d4f93805c837bd53ef944dcd9b4f88dc656a6bd91a78ffee35c71ab13a", checked := Try.checked }
namespace Rows
def none {H : Type} : Left H := { results := [], args := [] }

/-- 'zzlaws_internal_web_b1.FnIsPlaylistExtensionAlias': WHATEVER THE INPUT: true; the input reads as it did. -/
def fnIsPlaylistExtensionAliasSpec : ChangeSpec := { name := "fnIsPlaylistExtensionAlias", fn := fun _ => fun
  | [d] => { results := [.lit (.bool true)], args := [d] }
  | _ => none }
def fnIsPlaylistExtensionAliasRow : OpenClaim := { program := "qxb6616376a", sum := "bf4d55d4f93805c837bd53ef944dcd9b4f88dc656a6bd91a78ffee35c71ab13a", func := "example.com/relayframe/relayframe/zzlaws_internal_web_b1.FnIsPlaylistExtensionAlias", spec := "fnIsPlaylistExtensionAlias", apart := false }
def FnIsPlaylistExtensionAliasSaid : Prop := fnIsPlaylistExtensionAliasRow.holds Try.pinned (OpenSpec.ofChange fnIsPlaylistExtensionAliasSpec)

/-- ITS FALSE NEIGHBOUR: 'it returns false'. Refute it at one input. -/
def fnIsPlaylistExtensionAliasWrong : ChangeSpec := { name := "fnIsPlaylistExtensionAlias", fn := fun _ => fun
  | [d] => { results := [.lit (.bool false)], args := [d] }
  | _ => none }
def FnIsPlaylistExtensionAliasWrongFalsely : Prop := fnIsPlaylistExtensionAliasRow.holds Try.pinned (OpenSpec.ofChange fnIsPlaylistExtensionAliasWrong)

/-- 'zzlaws_internal_web_b1.FnIsPlaylistNamesArePrefixesOneEditApart': WHATEVER THE INPUT: true; the input reads as it did. -/
def fnIsPlaylistNamesArePrefixesOneEditApartSpec : ChangeSpec := { name := "fnIsPlaylistNamesArePrefixesOneEditApart", fn := fun _ => fun
  | [d1, d2, d3] => { results := [.lit (.bool true)], args := [d1, d2, d3] }
  | _ => none }
def fnIsPlaylistNamesArePrefixesOneEditApartRow : OpenClaim := { program := "qxb6616376a", sum := "bf4d55d4f93805c837bd53ef944dcd9b4f88dc656a6bd91a78ffee35c71ab13a", func := "example.com/relayframe/relayframe/zzlaws_internal_web_b1.FnIsPlaylistNamesArePrefixesOneEditApart", spec := "fnIsPlaylistNamesArePrefixesOneEditApart", apart := false }
def FnIsPlaylistNamesArePrefixesOneEditApartSaid : Prop := fnIsPlaylistNamesArePrefixesOneEditApartRow.holds Try.pinned (OpenSpec.ofChange fnIsPlaylistNamesArePrefixesOneEditApartSpec)

/-- ITS FALSE NEIGHBOUR: 'it returns false'. Refute it at one input. -/
def fnIsPlaylistNamesArePrefixesOneEditApartWrong : ChangeSpec := { name := "fnIsPlaylistNamesArePrefixesOneEditApart", fn := fun _ => fun
  | [d1, d2, d3] => { results := [.lit (.bool false)], args := [d1, d2, d3] }
  | _ => none }
def FnIsPlaylistNamesArePrefixesOneEditApartWrongFalsely : Prop := fnIsPlaylistNamesArePrefixesOneEditApartRow.holds Try.pinned (OpenSpec.ofChange fnIsPlaylistNamesArePrefixesOneEditApartWrong)

/-- 'zzlaws_internal_web_b1.FnHasRangeKeyPutIn': WHATEVER THE INPUT: true; the input reads as it did. -/
def fnHasRangeKeyPutInSpec : ChangeSpec := { name := "fnHasRangeKeyPutIn", fn := fun _ => fun
  | [d1, d2, d3] => { results := [.lit (.bool true)], args := [d1, d2, d3] }
  | _ => none }
def fnHasRangeKeyPutInRow : OpenClaim := { program := "qxb6616376a", sum := "bf4d55d4f93805c837bd53ef944dcd9b4f88dc656a6bd91a78ffee35c71ab13a", func := "example.com/relayframe/relayframe/zzlaws_internal_web_b1.FnHasRangeKeyPutIn", spec := "fnHasRangeKeyPutIn", apart := false }
def FnHasRangeKeyPutInSaid : Prop := fnHasRangeKeyPutInRow.holds Try.pinned (OpenSpec.ofChange fnHasRangeKeyPutInSpec)

/-- ITS FALSE NEIGHBOUR: 'it returns false'. Refute it at one input. -/
def fnHasRangeKeyPutInWrong : ChangeSpec := { name := "fnHasRangeKeyPutIn", fn := fun _ => fun
  | [d1, d2, d3] => { results := [.lit (.bool false)], args := [d1, d2, d3] }
  | _ => none }
def FnHasRangeKeyPutInWrongFalsely : Prop := fnHasRangeKeyPutInRow.holds Try.pinned (OpenSpec.ofChange fnHasRangeKeyPutInWrong)

end Rows
end Go.Proofs.Qxb6616376a
