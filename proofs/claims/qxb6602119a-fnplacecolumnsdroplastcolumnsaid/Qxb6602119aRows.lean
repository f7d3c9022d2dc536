/-
  No cell of these rows narrows 'for every input' (looked for: loops, veiled, ifaces, maps, wideKeys, modest, calm, conditions, laid).
  DERIVED. THE GIVEN ROWS OF THIS SEAT. 3 by the template 'for every input the law returns true; each argument reads behind the call as it read before'; 0 by the template 'total and deterministic' (their statements: Qxb6602119aTotals.lean).
  GIVEN WITH THE SEED: the statements are not yours to turn. If you find one false, say at which input.
  Laid BY PROGRAM, IN A SANDBOX (cutbox-rows.mjs): the forced cells as the released guide's own fill.sh prints them over the translation 9985200cdd4a7835… (all of the seat's roots in one cut). By AI agents, Wed Nov 11 2026. No macro, syntax, notation, axiom, sorry.
-/
import Derived.Test.Qxb6602119aChecked
import GoSem.Claim
import GoSem.ClaimJoined
import GoSem.ClaimMapViews
import Derived.JoinedTies
import Derived.KernelRfl
namespace Go.Proofs.Qxb6602119a
/- THE CELL 'sum', in the pinned program and in every row, IS THE sha256 OF THE DUMP (.gsa) THAT Qxb6602119aProg.lean LOADS. Nothing in Lean hashes anything: it is a label: what it is worth is what the hold of that sum in a sandbox is worth. -/
noncomputable def Try.pinned : Pinned := { name := "qxb6602119a", sum := "9985200cdd4a7835896adee09a4e59430ca80fed8a47e8a6974836b47dab841a", checked := Try.checked }
namespace Rows
def none {H : Type} : Left H := { results := [], args := [] }

/-- 'zzlaws_csvfile_b1.FnPlaceColumnsMatchesModel': WHATEVER THE INPUT: true; the input reads as it did. -/
def fnPlaceColumnsMatchesModelSpec : ChangeSpec := { name := "fnPlaceColumnsMatchesModel", fn := fun _ => fun
  | [d1, d2, d3] => { results := [.lit (.bool true)], args := [d1, d2, d3] }
  | _ => none }
def fnPlaceColumnsMatchesModelRow : OpenClaim := { program := "qxb6602119a", sum := "9985200cdd4a7835896adee09a4e59430ca80fed8a47e8a6974836b47dab841a", func := "example.com/fundcharter/fundcharter/zzlaws_csvfile_b1.FnPlaceColumnsMatchesModel", spec := "fnPlaceColumnsMatchesModel", apart := false }
def FnPlaceColumnsMatchesModelSaid : Prop := fnPlaceColumnsMatchesModelRow.holds Try.pinned (OpenSpec.ofChange fnPlaceColumnsMatchesModelSpec)

/-- ITS FALSE NEIGHBOUR: 'it returns false'. Refute it at one input. -/
def fnPlaceColumnsMatchesModelWrong : ChangeSpec := { name := "fnPlaceColumnsMatchesModel", fn := fun _ => fun
  | [d1, d2, d3] => { results := [.lit (.bool false)], args := [d1, d2, d3] }
  | _ => none }
def FnPlaceColumnsMatchesModelWrongFalsely : Prop := fnPlaceColumnsMatchesModelRow.holds Try.pinned (OpenSpec.ofChange fnPlaceColumnsMatchesModelWrong)

/-- 'zzlaws_csvfile_b1.FnPlaceColumnsCoversEachColumnOnce': WHATEVER THE INPUT: true; the input reads as it did. -/
def fnPlaceColumnsCoversEachColumnOnceSpec : ChangeSpec := { name := "fnPlaceColumnsCoversEachColumnOnce", fn := fun _ => fun
  | [d1, d2, d3] => { results := [.lit (.bool true)], args := [d1, d2, d3] }
  | _ => none }
def fnPlaceColumnsCoversEachColumnOnceRow : OpenClaim := { program := "qxb6602119a", sum := "9985200cdd4a7835896adee09a4e59430ca80fed8a47e8a6974836b47dab841a", func := "example.com/fundcharter/fundcharter/zzlaws_csvfile_b1.FnPlaceColumnsCoversEachColumnOnce", spec := "fnPlaceColumnsCoversEachColumnOnce", apart := false }
def FnPlaceColumnsCoversEachColumnOnceSaid : Prop := fnPlaceColumnsCoversEachColumnOnceRow.holds Try.pinned (OpenSpec.ofChange fnPlaceColumnsCoversEachColumnOnceSpec)

/-- ITS FALSE NEIGHBOUR: 'it returns false'. Refute it at one input. -/
def fnPlaceColumnsCoversEachColumnOnceWrong : ChangeSpec := { name := "fnPlaceColumnsCoversEachColumnOnce", fn := fun _ => fun
  | [d1, d2, d3] => { results := [.lit (.bool false)], args := [d1, d2, d3] }
  | _ => none }
def FnPlaceColumnsCoversEachColumnOnceWrongFalsely : Prop := fnPlaceColumnsCoversEachColumnOnceRow.holds Try.pinned (OpenSpec.ofChange fnPlaceColumnsCoversEachColumnOnceWrong)

/-- 'zzlaws_csvfile_b1.FnPlaceColumnsDropLastColumn': WHATEVER THE INPUT: true; the input reads as it did. -/
def fnPlaceColumnsDropLastColumnSpec : ChangeSpec := { name := "fnPlaceColumnsDropLastColumn", fn := fun _ => fun
  | [d1, d2, d3] => { results := [.lit (.bool true)], args := [d1, d2, d3] }
  | _ => none }
def fnPlaceColumnsDropLastColumnRow : OpenClaim := { program := "qxb6602119a", sum := "9985200cdd4a7835896adee09a4e59430ca80fed8a47e8a6974836b47dab841a", func := "example.com/fundcharter/fundcharter/zzlaws_csvfile_b1.FnPlaceColumnsDropLastColumn", spec := "fnPlaceColumnsDropLastColumn", apart := false }
def FnPlaceColumnsDropLastColumnSaid : Prop := fnPlaceColumnsDropLastColumnRow.holds Try.pinned (OpenSpec.ofChange fnPlaceColumnsDropLastColumnSpec)

/-- ITS FALSE NEIGHBOUR: 'it returns false'. Refute it at one input. -/
def fnPlaceColumnsDropLastColumnWrong : ChangeSpec := { name := "fnPlaceColumnsDropLastColumn", fn := fun _ => fun
  | [d1, d2, d3] => { results := [.lit (.bool false)], args := [d1, d2, d3] }
  | _ => none }
def FnPlaceColumnsDropLastColumnWrongFalsely : Prop := fnPlaceColumnsDropLastColumnRow.holds Try.pinned (OpenSpec.ofChange fnPlaceColumnsDropLastColumnWrong)

end Rows
end Go.Proofs.Qxb6602119a
