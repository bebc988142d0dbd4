/-
  No cell of these rows narrows 'for every input' (looked for: loops, veiled, ifaces, maps, wideKeys, modest, calm, conditions, laid).
  DERIVED. THE GIVEN ROWS OF THIS SEAT. 6 by the template 'for every input the law returns true; each argument reads behind the call as it read before'; 0 by the template 'total and deterministic' (their statements: YoefwwTotals.lean).
  GIVEN WITH THE SEED: the statements are not yours to turn. If you find one false, say at which input.
  Laid BY PROGRAM, IN A SANDBOX (cutbox-rows.mjs): the forced cells as the released guide's own fill.sh prints them over the translation 94a59ff7262283d2… (all of the seat's roots in one cut). By AI agents, Wed Nov 11 2026. No macro, syntax, notation, axiom, sorry.
-/
import Derived.Test.YoefwwChecked
import GoSem.Claim
import GoSem.ClaimJoined
import GoSem.ClaimMapViews
import Derived.JoinedTies
import Derived.KernelRfl
namespace Go.Proofs.Yoefww
/- THE CELL 'sum', in the pinned program and in every row, IS THE sha256 OF THE DUMP (.gsa) THAT YoefwwProg.lean LOADS. Nothing in Lean hashes anything: it is a label: what it is worth is what the hold of that sum in a sandbox is worth. -/
noncomputable def Efwg.pinned : Pinned := { name := "yoefww", sum := "94a59ff7262283d251de7063995eea322f165c054b92cc6029cbcaa11edda408", checked := Efwg.checked }
namespace Rows
def none {H : Type} : Left H := { results := [], args := [] }

/-- 'zzlaws_root_b1.FnModuleMapScriptModel': WHATEVER THE INPUT: true; the input reads as it did. -/
def fnModuleMapScriptModelSpec : ChangeSpec := { name := "fnModuleMapScriptModel", fn := fun _ => fun
  | [d1, d2] => { results := [.lit (.bool true)], args := [d1, d2] }
  | _ => none }
def fnModuleMapScriptModelRow : OpenClaim := { program := "yoefww", sum := "94a59ff7262283d251de7063995eea322f165c054b92cc6029cbcaa11edda408", func := "github.com/d5/tengo/v2/zzlaws_root_b1.FnModuleMapScriptModel", spec := "fnModuleMapScriptModel", apart := false }
def FnModuleMapScriptModelSaid : Prop := fnModuleMapScriptModelRow.holds Efwg.pinned (OpenSpec.ofChange fnModuleMapScriptModelSpec)

/-- ITS FALSE NEIGHBOUR: 'it returns false'. Refute it at one input. -/
def fnModuleMapScriptModelWrong : ChangeSpec := { name := "fnModuleMapScriptModel", fn := fun _ => fun
  | [d1, d2] => { results := [.lit (.bool false)], args := [d1, d2] }
  | _ => none }
def FnModuleMapScriptModelWrongFalsely : Prop := fnModuleMapScriptModelRow.holds Efwg.pinned (OpenSpec.ofChange fnModuleMapScriptModelWrong)

/-- 'zzlaws_root_b1.FnNewModuleMapEmpty': WHATEVER THE INPUT: true; the input reads as it did. -/
def fnNewModuleMapEmptySpec : ChangeSpec := { name := "fnNewModuleMapEmpty", fn := fun _ => fun
  | [d] => { results := [.lit (.bool true)], args := [d] }
  | _ => none }
def fnNewModuleMapEmptyRow : OpenClaim := { program := "yoefww", sum := "94a59ff7262283d251de7063995eea322f165c054b92cc6029cbcaa11edda408", func := "github.com/d5/tengo/v2/zzlaws_root_b1.FnNewModuleMapEmpty", spec := "fnNewModuleMapEmpty", apart := false }
def FnNewModuleMapEmptySaid : Prop := fnNewModuleMapEmptyRow.holds Efwg.pinned (OpenSpec.ofChange fnNewModuleMapEmptySpec)

/-- ITS FALSE NEIGHBOUR: 'it returns false'. Refute it at one input. -/
def fnNewModuleMapEmptyWrong : ChangeSpec := { name := "fnNewModuleMapEmpty", fn := fun _ => fun
  | [d] => { results := [.lit (.bool false)], args := [d] }
  | _ => none }
def FnNewModuleMapEmptyWrongFalsely : Prop := fnNewModuleMapEmptyRow.holds Efwg.pinned (OpenSpec.ofChange fnNewModuleMapEmptyWrong)

/-- 'zzlaws_root_b1.FnNewModuleMapIndependent': WHATEVER THE INPUT: true; the input reads as it did. -/
def fnNewModuleMapIndependentSpec : ChangeSpec := { name := "fnNewModuleMapIndependent", fn := fun _ => fun
  | [d1, d2] => { results := [.lit (.bool true)], args := [d1, d2] }
  | _ => none }
def fnNewModuleMapIndependentRow : OpenClaim := { program := "yoefww", sum := "94a59ff7262283d251de7063995eea322f165c054b92cc6029cbcaa11edda408", func := "github.com/d5/tengo/v2/zzlaws_root_b1.FnNewModuleMapIndependent", spec := "fnNewModuleMapIndependent", apart := false }
def FnNewModuleMapIndependentSaid : Prop := fnNewModuleMapIndependentRow.holds Efwg.pinned (OpenSpec.ofChange fnNewModuleMapIndependentSpec)

/-- ITS FALSE NEIGHBOUR: 'it returns false'. Refute it at one input. -/
def fnNewModuleMapIndependentWrong : ChangeSpec := { name := "fnNewModuleMapIndependent", fn := fun _ => fun
  | [d1, d2] => { results := [.lit (.bool false)], args := [d1, d2] }
  | _ => none }
def FnNewModuleMapIndependentWrongFalsely : Prop := fnNewModuleMapIndependentRow.holds Efwg.pinned (OpenSpec.ofChange fnNewModuleMapIndependentWrong)

/-- 'zzlaws_root_b1.FnAddLastWriterWins': WHATEVER THE INPUT: true; the input reads as it did. -/
def fnAddLastWriterWinsSpec : ChangeSpec := { name := "fnAddLastWriterWins", fn := fun _ => fun
  | [d1, d2, d3, d4] => { results := [.lit (.bool true)], args := [d1, d2, d3, d4] }
  | _ => none }
def fnAddLastWriterWinsRow : OpenClaim := { program := "yoefww", sum := "94a59ff7262283d251de7063995eea322f165c054b92cc6029cbcaa11edda408", func := "github.com/d5/tengo/v2/zzlaws_root_b1.FnAddLastWriterWins", spec := "fnAddLastWriterWins", apart := false }
def FnAddLastWriterWinsSaid : Prop := fnAddLastWriterWinsRow.holds Efwg.pinned (OpenSpec.ofChange fnAddLastWriterWinsSpec)

/-- ITS FALSE NEIGHBOUR: 'it returns false'. Refute it at one input. -/
def fnAddLastWriterWinsWrong : ChangeSpec := { name := "fnAddLastWriterWins", fn := fun _ => fun
  | [d1, d2, d3, d4] => { results := [.lit (.bool false)], args := [d1, d2, d3, d4] }
  | _ => none }
def FnAddLastWriterWinsWrongFalsely : Prop := fnAddLastWriterWinsRow.holds Efwg.pinned (OpenSpec.ofChange fnAddLastWriterWinsWrong)

/-- 'zzlaws_root_b1.FnAddBuiltinModuleReplacesAndRemoves': WHATEVER THE INPUT: true; the input reads as it did. -/
def fnAddBuiltinModuleReplacesAndRemovesSpec : ChangeSpec := { name := "fnAddBuiltinModuleReplacesAndRemoves", fn := fun _ => fun
  | [d1, d2] => { results := [.lit (.bool true)], args := [d1, d2] }
  | _ => none }
def fnAddBuiltinModuleReplacesAndRemovesRow : OpenClaim := { program := "yoefww", sum := "94a59ff7262283d251de7063995eea322f165c054b92cc6029cbcaa11edda408", func := "github.com/d5/tengo/v2/zzlaws_root_b1.FnAddBuiltinModuleReplacesAndRemoves", spec := "fnAddBuiltinModuleReplacesAndRemoves", apart := false }
def FnAddBuiltinModuleReplacesAndRemovesSaid : Prop := fnAddBuiltinModuleReplacesAndRemovesRow.holds Efwg.pinned (OpenSpec.ofChange fnAddBuiltinModuleReplacesAndRemovesSpec)

/-- ITS FALSE NEIGHBOUR: 'it returns false'. Refute it at one input. -/
def fnAddBuiltinModuleReplacesAndRemovesWrong : ChangeSpec := { name := "fnAddBuiltinModuleReplacesAndRemoves", fn := fun _ => fun
  | [d1, d2] => { results := [.lit (.bool false)], args := [d1, d2] }
  | _ => none }
def FnAddBuiltinModuleReplacesAndRemovesWrongFalsely : Prop := fnAddBuiltinModuleReplacesAndRemovesRow.holds Efwg.pinned (OpenSpec.ofChange fnAddBuiltinModuleReplacesAndRemovesWrong)

/-- 'zzlaws_root_b1.FnAddSourceModuleRoundTrip': WHATEVER THE INPUT: true; the input reads as it did. -/
def fnAddSourceModuleRoundTripSpec : ChangeSpec := { name := "fnAddSourceModuleRoundTrip", fn := fun _ => fun
  | [d1, d2] => { results := [.lit (.bool true)], args := [d1, d2] }
  | _ => none }
def fnAddSourceModuleRoundTripRow : OpenClaim := { program := "yoefww", sum := "94a59ff7262283d251de7063995eea322f165c054b92cc6029cbcaa11edda408", func := "github.com/d5/tengo/v2/zzlaws_root_b1.FnAddSourceModuleRoundTrip", spec := "fnAddSourceModuleRoundTrip", apart := false }
def FnAddSourceModuleRoundTripSaid : Prop := fnAddSourceModuleRoundTripRow.holds Efwg.pinned (OpenSpec.ofChange fnAddSourceModuleRoundTripSpec)

/-- ITS FALSE NEIGHBOUR: 'it returns false'. Refute it at one input. -/
def fnAddSourceModuleRoundTripWrong : ChangeSpec := { name := "fnAddSourceModuleRoundTrip", fn := fun _ => fun
  | [d1, d2] => { results := [.lit (.bool false)], args := [d1, d2] }
  | _ => none }
def FnAddSourceModuleRoundTripWrongFalsely : Prop := fnAddSourceModuleRoundTripRow.holds Efwg.pinned (OpenSpec.ofChange fnAddSourceModuleRoundTripWrong)

end Rows
end Go.Proofs.Yoefww
