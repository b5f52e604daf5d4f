/-
  No cell of these rows narrows 'for every input' (looked for: loops, veiled, ifaces, maps, wideKeys, modest, calm, conditions, laid).
  DERIVED. THE GIVEN ROWS OF THIS SEAT. 12 by the template 'for every input the law returns true; each argument reads behind the call as it read before'; 0 by the template 'total and deterministic' (their statements: YtfgcfllboagfmaaTotals.lean).
  GIVEN WITH THE SEED: the statements are not yours to turn. If you find one false, say at which input.
  Laid BY PROGRAM, IN A SANDBOX (cutbox-rows.mjs): the forced cells as the released guide's own fill.sh prints them over the translation f12100d5f4aecf24… (all of the seat's roots in one cut). By AI agents, Wed Nov 11 2026. No macro, syntax, notation, axiom, sorry.
-/
import Derived.Test.YtfgcfllboagfmaaChecked
import GoSem.Claim
import GoSem.ClaimJoined
import GoSem.ClaimMapViews
import Derived.JoinedTies
import Derived.KernelRfl
namespace Go.Proofs.Ytfgcfllboagfmaa
/- THE CELL 'sum', in the pinned program and in every row, IS THE sha256 OF THE DUMP (.gsa) THAT YtfgcfllboagfmaaProg.lean LOADS. Nothing in Lean hashes anything: it is a label: what it is worth is what the hold of that sum in a sandbox is worth. -/
noncomputable def Try.pinned : Pinned := { name := "ytfgcfllboagfmaa", sum := "f12100d5f4aecf24b21be9960b8a189d2e92f9568f06d92114b009c59d8a09e7", checked := Try.checked }
namespace Rows
def none {H : Type} : Left H := { results := [], args := [] }

/-- 'laws.FnConstOne': WHATEVER THE INPUT: true; the input reads as it did. -/
def fnConstOneSpec : ChangeSpec := { name := "fnConstOne", fn := fun _ => fun
  | [d1, d2] => { results := [.lit (.bool true)], args := [d1, d2] }
  | _ => none }
def fnConstOneRow : OpenClaim := { program := "ytfgcfllboagfmaa", sum := "f12100d5f4aecf24b21be9960b8a189d2e92f9568f06d92114b009c59d8a09e7", func := "loop.example/pub-g01457/laws.FnConstOne", spec := "fnConstOne", apart := false }
def FnConstOneSaid : Prop := fnConstOneRow.holds Try.pinned (OpenSpec.ofChange fnConstOneSpec)

/-- ITS FALSE NEIGHBOUR: 'it returns false'. Refute it at one input. -/
def fnConstOneWrong : ChangeSpec := { name := "fnConstOne", fn := fun _ => fun
  | [d1, d2] => { results := [.lit (.bool false)], args := [d1, d2] }
  | _ => none }
def FnConstOneWrongFalsely : Prop := fnConstOneRow.holds Try.pinned (OpenSpec.ofChange fnConstOneWrong)

/-- 'laws.FnConstSound': WHATEVER THE INPUT: true; the input reads as it did. -/
def fnConstSoundSpec : ChangeSpec := { name := "fnConstSound", fn := fun _ => fun
  | [d1, d2] => { results := [.lit (.bool true)], args := [d1, d2] }
  | _ => none }
def fnConstSoundRow : OpenClaim := { program := "ytfgcfllboagfmaa", sum := "f12100d5f4aecf24b21be9960b8a189d2e92f9568f06d92114b009c59d8a09e7", func := "loop.example/pub-g01457/laws.FnConstSound", spec := "fnConstSound", apart := false }
def FnConstSoundSaid : Prop := fnConstSoundRow.holds Try.pinned (OpenSpec.ofChange fnConstSoundSpec)

/-- ITS FALSE NEIGHBOUR: 'it returns false'. Refute it at one input. -/
def fnConstSoundWrong : ChangeSpec := { name := "fnConstSound", fn := fun _ => fun
  | [d1, d2] => { results := [.lit (.bool false)], args := [d1, d2] }
  | _ => none }
def FnConstSoundWrongFalsely : Prop := fnConstSoundRow.holds Try.pinned (OpenSpec.ofChange fnConstSoundWrong)

/-- 'laws.FnMaybeZeroIs': WHATEVER THE INPUT: true; the input reads as it did. -/
def fnMaybeZeroIsSpec : ChangeSpec := { name := "fnMaybeZeroIs", fn := fun _ => fun
  | [d] => { results := [.lit (.bool true)], args := [d] }
  | _ => none }
def fnMaybeZeroIsRow : OpenClaim := { program := "ytfgcfllboagfmaa", sum := "f12100d5f4aecf24b21be9960b8a189d2e92f9568f06d92114b009c59d8a09e7", func := "loop.example/pub-g01457/laws.FnMaybeZeroIs", spec := "fnMaybeZeroIs", apart := false }
def FnMaybeZeroIsSaid : Prop := fnMaybeZeroIsRow.holds Try.pinned (OpenSpec.ofChange fnMaybeZeroIsSpec)

/-- ITS FALSE NEIGHBOUR: 'it returns false'. Refute it at one input. -/
def fnMaybeZeroIsWrong : ChangeSpec := { name := "fnMaybeZeroIs", fn := fun _ => fun
  | [d] => { results := [.lit (.bool false)], args := [d] }
  | _ => none }
def FnMaybeZeroIsWrongFalsely : Prop := fnMaybeZeroIsRow.holds Try.pinned (OpenSpec.ofChange fnMaybeZeroIsWrong)

/-- 'laws.FnSafeAddUIs': WHATEVER THE INPUT: true; the input reads as it did. -/
def fnSafeAddUIsSpec : ChangeSpec := { name := "fnSafeAddUIs", fn := fun _ => fun
  | [d1, d2, d3] => { results := [.lit (.bool true)], args := [d1, d2, d3] }
  | _ => none }
def fnSafeAddUIsRow : OpenClaim := { program := "ytfgcfllboagfmaa", sum := "f12100d5f4aecf24b21be9960b8a189d2e92f9568f06d92114b009c59d8a09e7", func := "loop.example/pub-g01457/laws.FnSafeAddUIs", spec := "fnSafeAddUIs", apart := false }
def FnSafeAddUIsSaid : Prop := fnSafeAddUIsRow.holds Try.pinned (OpenSpec.ofChange fnSafeAddUIsSpec)

/-- ITS FALSE NEIGHBOUR: 'it returns false'. Refute it at one input. -/
def fnSafeAddUIsWrong : ChangeSpec := { name := "fnSafeAddUIs", fn := fun _ => fun
  | [d1, d2, d3] => { results := [.lit (.bool false)], args := [d1, d2, d3] }
  | _ => none }
def FnSafeAddUIsWrongFalsely : Prop := fnSafeAddUIsRow.holds Try.pinned (OpenSpec.ofChange fnSafeAddUIsWrong)

/-- 'laws.FnSafeSubUIs': WHATEVER THE INPUT: true; the input reads as it did. -/
def fnSafeSubUIsSpec : ChangeSpec := { name := "fnSafeSubUIs", fn := fun _ => fun
  | [d1, d2, d3] => { results := [.lit (.bool true)], args := [d1, d2, d3] }
  | _ => none }
def fnSafeSubUIsRow : OpenClaim := { program := "ytfgcfllboagfmaa", sum := "f12100d5f4aecf24b21be9960b8a189d2e92f9568f06d92114b009c59d8a09e7", func := "loop.example/pub-g01457/laws.FnSafeSubUIs", spec := "fnSafeSubUIs", apart := false }
def FnSafeSubUIsSaid : Prop := fnSafeSubUIsRow.holds Try.pinned (OpenSpec.ofChange fnSafeSubUIsSpec)

/-- ITS FALSE NEIGHBOUR: 'it returns false'. Refute it at one input. -/
def fnSafeSubUIsWrong : ChangeSpec := { name := "fnSafeSubUIs", fn := fun _ => fun
  | [d1, d2, d3] => { results := [.lit (.bool false)], args := [d1, d2, d3] }
  | _ => none }
def FnSafeSubUIsWrongFalsely : Prop := fnSafeSubUIsRow.holds Try.pinned (OpenSpec.ofChange fnSafeSubUIsWrong)

/-- 'laws.FnSafeAddIs': WHATEVER THE INPUT: true; the input reads as it did. -/
def fnSafeAddIsSpec : ChangeSpec := { name := "fnSafeAddIs", fn := fun _ => fun
  | [d1, d2, d3] => { results := [.lit (.bool true)], args := [d1, d2, d3] }
  | _ => none }
def fnSafeAddIsRow : OpenClaim := { program := "ytfgcfllboagfmaa", sum := "f12100d5f4aecf24b21be9960b8a189d2e92f9568f06d92114b009c59d8a09e7", func := "loop.example/pub-g01457/laws.FnSafeAddIs", spec := "fnSafeAddIs", apart := false }
def FnSafeAddIsSaid : Prop := fnSafeAddIsRow.holds Try.pinned (OpenSpec.ofChange fnSafeAddIsSpec)

/-- ITS FALSE NEIGHBOUR: 'it returns false'. Refute it at one input. -/
def fnSafeAddIsWrong : ChangeSpec := { name := "fnSafeAddIs", fn := fun _ => fun
  | [d1, d2, d3] => { results := [.lit (.bool false)], args := [d1, d2, d3] }
  | _ => none }
def FnSafeAddIsWrongFalsely : Prop := fnSafeAddIsRow.holds Try.pinned (OpenSpec.ofChange fnSafeAddIsWrong)

/-- 'laws.FnFitsSigned': WHATEVER THE INPUT: true; the input reads as it did. -/
def fnFitsSignedSpec : ChangeSpec := { name := "fnFitsSigned", fn := fun _ => fun
  | [d1, d2] => { results := [.lit (.bool true)], args := [d1, d2] }
  | _ => none }
def fnFitsSignedRow : OpenClaim := { program := "ytfgcfllboagfmaa", sum := "f12100d5f4aecf24b21be9960b8a189d2e92f9568f06d92114b009c59d8a09e7", func := "loop.example/pub-g01457/laws.FnFitsSigned", spec := "fnFitsSigned", apart := false }
def FnFitsSignedSaid : Prop := fnFitsSignedRow.holds Try.pinned (OpenSpec.ofChange fnFitsSignedSpec)

/-- ITS FALSE NEIGHBOUR: 'it returns false'. Refute it at one input. -/
def fnFitsSignedWrong : ChangeSpec := { name := "fnFitsSigned", fn := fun _ => fun
  | [d1, d2] => { results := [.lit (.bool false)], args := [d1, d2] }
  | _ => none }
def FnFitsSignedWrongFalsely : Prop := fnFitsSignedRow.holds Try.pinned (OpenSpec.ofChange fnFitsSignedWrong)

/-- 'laws.FnSafeSubIs': WHATEVER THE INPUT: true; the input reads as it did. -/
def fnSafeSubIsSpec : ChangeSpec := { name := "fnSafeSubIs", fn := fun _ => fun
  | [d1, d2, d3] => { results := [.lit (.bool true)], args := [d1, d2, d3] }
  | _ => none }
def fnSafeSubIsRow : OpenClaim := { program := "ytfgcfllboagfmaa", sum := "f12100d5f4aecf24b21be9960b8a189d2e92f9568f06d92114b009c59d8a09e7", func := "loop.example/pub-g01457/laws.FnSafeSubIs", spec := "fnSafeSubIs", apart := false }
def FnSafeSubIsSaid : Prop := fnSafeSubIsRow.holds Try.pinned (OpenSpec.ofChange fnSafeSubIsSpec)

/-- ITS FALSE NEIGHBOUR: 'it returns false'. Refute it at one input. -/
def fnSafeSubIsWrong : ChangeSpec := { name := "fnSafeSubIs", fn := fun _ => fun
  | [d1, d2, d3] => { results := [.lit (.bool false)], args := [d1, d2, d3] }
  | _ => none }
def FnSafeSubIsWrongFalsely : Prop := fnSafeSubIsRow.holds Try.pinned (OpenSpec.ofChange fnSafeSubIsWrong)

/-- 'laws.FnSafeBack': WHATEVER THE INPUT: true; the input reads as it did. -/
def fnSafeBackSpec : ChangeSpec := { name := "fnSafeBack", fn := fun _ => fun
  | [d1, d2, d3] => { results := [.lit (.bool true)], args := [d1, d2, d3] }
  | _ => none }
def fnSafeBackRow : OpenClaim := { program := "ytfgcfllboagfmaa", sum := "f12100d5f4aecf24b21be9960b8a189d2e92f9568f06d92114b009c59d8a09e7", func := "loop.example/pub-g01457/laws.FnSafeBack", spec := "fnSafeBack", apart := false }
def FnSafeBackSaid : Prop := fnSafeBackRow.holds Try.pinned (OpenSpec.ofChange fnSafeBackSpec)

/-- ITS FALSE NEIGHBOUR: 'it returns false'. Refute it at one input. -/
def fnSafeBackWrong : ChangeSpec := { name := "fnSafeBack", fn := fun _ => fun
  | [d1, d2, d3] => { results := [.lit (.bool false)], args := [d1, d2, d3] }
  | _ => none }
def FnSafeBackWrongFalsely : Prop := fnSafeBackRow.holds Try.pinned (OpenSpec.ofChange fnSafeBackWrong)

/-- 'laws.FnExp2One': WHATEVER THE INPUT: true; the input reads as it did. -/
def fnExp2OneSpec : ChangeSpec := { name := "fnExp2One", fn := fun _ => fun
  | [d1, d2] => { results := [.lit (.bool true)], args := [d1, d2] }
  | _ => none }
def fnExp2OneRow : OpenClaim := { program := "ytfgcfllboagfmaa", sum := "f12100d5f4aecf24b21be9960b8a189d2e92f9568f06d92114b009c59d8a09e7", func := "loop.example/pub-g01457/laws.FnExp2One", spec := "fnExp2One", apart := false }
def FnExp2OneSaid : Prop := fnExp2OneRow.holds Try.pinned (OpenSpec.ofChange fnExp2OneSpec)

/-- ITS FALSE NEIGHBOUR: 'it returns false'. Refute it at one input. -/
def fnExp2OneWrong : ChangeSpec := { name := "fnExp2One", fn := fun _ => fun
  | [d1, d2] => { results := [.lit (.bool false)], args := [d1, d2] }
  | _ => none }
def FnExp2OneWrongFalsely : Prop := fnExp2OneRow.holds Try.pinned (OpenSpec.ofChange fnExp2OneWrong)

/-- 'laws.FnComOne': WHATEVER THE INPUT: true; the input reads as it did. -/
def fnComOneSpec : ChangeSpec := { name := "fnComOne", fn := fun _ => fun
  | [d1, d2] => { results := [.lit (.bool true)], args := [d1, d2] }
  | _ => none }
def fnComOneRow : OpenClaim := { program := "ytfgcfllboagfmaa", sum := "f12100d5f4aecf24b21be9960b8a189d2e92f9568f06d92114b009c59d8a09e7", func := "loop.example/pub-g01457/laws.FnComOne", spec := "fnComOne", apart := false }
def FnComOneSaid : Prop := fnComOneRow.holds Try.pinned (OpenSpec.ofChange fnComOneSpec)

/-- ITS FALSE NEIGHBOUR: 'it returns false'. Refute it at one input. -/
def fnComOneWrong : ChangeSpec := { name := "fnComOne", fn := fun _ => fun
  | [d1, d2] => { results := [.lit (.bool false)], args := [d1, d2] }
  | _ => none }
def FnComOneWrongFalsely : Prop := fnComOneRow.holds Try.pinned (OpenSpec.ofChange fnComOneWrong)

/-- 'laws.FnAddOne': WHATEVER THE INPUT: true; the input reads as it did. -/
def fnAddOneSpec : ChangeSpec := { name := "fnAddOne", fn := fun _ => fun
  | [d1, d2, d3] => { results := [.lit (.bool true)], args := [d1, d2, d3] }
  | _ => none }
def fnAddOneRow : OpenClaim := { program := "ytfgcfllboagfmaa", sum := "f12100d5f4aecf24b21be9960b8a189d2e92f9568f06d92114b009c59d8a09e7", func := "loop.example/pub-g01457/laws.FnAddOne", spec := "fnAddOne", apart := false }
def FnAddOneSaid : Prop := fnAddOneRow.holds Try.pinned (OpenSpec.ofChange fnAddOneSpec)

/-- ITS FALSE NEIGHBOUR: 'it returns false'. Refute it at one input. -/
def fnAddOneWrong : ChangeSpec := { name := "fnAddOne", fn := fun _ => fun
  | [d1, d2, d3] => { results := [.lit (.bool false)], args := [d1, d2, d3] }
  | _ => none }
def FnAddOneWrongFalsely : Prop := fnAddOneRow.holds Try.pinned (OpenSpec.ofChange fnAddOneWrong)

/- THE SECOND FORM. 'bulk': how many values and letters a reading holds, each counted each time it is reached (what is shared counts as often as it is met; a slice's spare places count too). A statement '..UptoSaid' is the law's where the arguments, and the package variables that the reading takes, are together of bulk at most 1048576: NARROWER than '..Said'. Prove '..Said' where nothing that the law and all that it calls make is longer than what came in: it says more and counts as full. Else prove '..UptoSaid'. A law counts once. -/
mutual
def uptoBulk {H : Type} : DataW H → Nat
  | .lit (.string bytes) => bytes.length + 1
  | .lit _ => 1
  | .nil => 1
  | .ptr d => uptoBulk d + 1
  | .slice elems spare => uptoBulkAll elems + uptoBulkAll spare + 1
  | .agg parts => uptoBulkAll parts + 1
  | .iface _ d => uptoBulk d + 1
  | .map entries => uptoBulkEntries entries + 1
  | .held _ => 1
def uptoBulkAll {H : Type} : List (DataW H) → Nat
  | [] => 0
  | d :: r => uptoBulk d + uptoBulkAll r
def uptoBulkEntries {H : Type} : List (Lit × DataW H) → Nat
  | [] => 0
  | x :: r => uptoBulkEntry x + uptoBulkEntries r
def uptoBulkEntry {H : Type} : Lit × DataW H → Nat
  | (.string bytes, d) => bytes.length + uptoBulk d + 1
  | (_, d) => uptoBulk d + 1
 end
def uptoSmall : (H : Type) → List (DataW H) → Bool := fun _ ds => decide (uptoBulkAll ds ≤ 1048576)
def OpenSpec.upto (s : _root_.Go.ChangeSpec) : _root_.Go.OpenSpec := { _root_.Go.OpenSpec.ofChange s with cond := some uptoSmall }

/-- 'laws.FnConstOne', WHERE WHAT IT READS IS OF BULK AT MOST 1048576: true; the input reads as it did. -/
def fnConstOneUptoRow : OpenClaim := { program := "ytfgcfllboagfmaa", sum := "f12100d5f4aecf24b21be9960b8a189d2e92f9568f06d92114b009c59d8a09e7", func := "loop.example/pub-g01457/laws.FnConstOne", spec := "fnConstOne", apart := false, narrowed := true }
def FnConstOneUptoSaid : Prop := fnConstOneUptoRow.holds Try.pinned (OpenSpec.upto fnConstOneSpec)

/-- 'laws.FnConstSound', WHERE WHAT IT READS IS OF BULK AT MOST 1048576: true; the input reads as it did. -/
def fnConstSoundUptoRow : OpenClaim := { program := "ytfgcfllboagfmaa", sum := "f12100d5f4aecf24b21be9960b8a189d2e92f9568f06d92114b009c59d8a09e7", func := "loop.example/pub-g01457/laws.FnConstSound", spec := "fnConstSound", apart := false, narrowed := true }
def FnConstSoundUptoSaid : Prop := fnConstSoundUptoRow.holds Try.pinned (OpenSpec.upto fnConstSoundSpec)

/-- 'laws.FnMaybeZeroIs', WHERE WHAT IT READS IS OF BULK AT MOST 1048576: true; the input reads as it did. -/
def fnMaybeZeroIsUptoRow : OpenClaim := { program := "ytfgcfllboagfmaa", sum := "f12100d5f4aecf24b21be9960b8a189d2e92f9568f06d92114b009c59d8a09e7", func := "loop.example/pub-g01457/laws.FnMaybeZeroIs", spec := "fnMaybeZeroIs", apart := false, narrowed := true }
def FnMaybeZeroIsUptoSaid : Prop := fnMaybeZeroIsUptoRow.holds Try.pinned (OpenSpec.upto fnMaybeZeroIsSpec)

/-- 'laws.FnSafeAddUIs', WHERE WHAT IT READS IS OF BULK AT MOST 1048576: true; the input reads as it did. -/
def fnSafeAddUIsUptoRow : OpenClaim := { program := "ytfgcfllboagfmaa", sum := "f12100d5f4aecf24b21be9960b8a189d2e92f9568f06d92114b009c59d8a09e7", func := "loop.example/pub-g01457/laws.FnSafeAddUIs", spec := "fnSafeAddUIs", apart := false, narrowed := true }
def FnSafeAddUIsUptoSaid : Prop := fnSafeAddUIsUptoRow.holds Try.pinned (OpenSpec.upto fnSafeAddUIsSpec)

/-- 'laws.FnSafeSubUIs', WHERE WHAT IT READS IS OF BULK AT MOST 1048576: true; the input reads as it did. -/
def fnSafeSubUIsUptoRow : OpenClaim := { program := "ytfgcfllboagfmaa", sum := "f12100d5f4aecf24b21be9960b8a189d2e92f9568f06d92114b009c59d8a09e7", func := "loop.example/pub-g01457/laws.FnSafeSubUIs", spec := "fnSafeSubUIs", apart := false, narrowed := true }
def FnSafeSubUIsUptoSaid : Prop := fnSafeSubUIsUptoRow.holds Try.pinned (OpenSpec.upto fnSafeSubUIsSpec)

/-- 'laws.FnSafeAddIs', WHERE WHAT IT READS IS OF BULK AT MOST 1048576: true; the input reads as it did. -/
def fnSafeAddIsUptoRow : OpenClaim := { program := "ytfgcfllboagfmaa", sum := "f12100d5f4aecf24b21be9960b8a189d2e92f9568f06d92114b009c59d8a09e7", func := "loop.example/pub-g01457/laws.FnSafeAddIs", spec := "fnSafeAddIs", apart := false, narrowed := true }
def FnSafeAddIsUptoSaid : Prop := fnSafeAddIsUptoRow.holds Try.pinned (OpenSpec.upto fnSafeAddIsSpec)

/-- 'laws.FnFitsSigned', WHERE WHAT IT READS IS OF BULK AT MOST 1048576: true; the input reads as it did. -/
def fnFitsSignedUptoRow : OpenClaim := { program := "ytfgcfllboagfmaa", sum := "f12100d5f4aecf24b21be9960b8a189d2e92f9568f06d92114b009c59d8a09e7", func := "loop.example/pub-g01457/laws.FnFitsSigned", spec := "fnFitsSigned", apart := false, narrowed := true }
def FnFitsSignedUptoSaid : Prop := fnFitsSignedUptoRow.holds Try.pinned (OpenSpec.upto fnFitsSignedSpec)

/-- 'laws.FnSafeSubIs', WHERE WHAT IT READS IS OF BULK AT MOST 1048576: true; the input reads as it did. -/
def fnSafeSubIsUptoRow : OpenClaim := { program := "ytfgcfllboagfmaa", sum := "f12100d5f4aecf24b21be9960b8a189d2e92f9568f06d92114b009c59d8a09e7", func := "loop.example/pub-g01457/laws.FnSafeSubIs", spec := "fnSafeSubIs", apart := false, narrowed := true }
def FnSafeSubIsUptoSaid : Prop := fnSafeSubIsUptoRow.holds Try.pinned (OpenSpec.upto fnSafeSubIsSpec)

/-- 'laws.FnSafeBack', WHERE WHAT IT READS IS OF BULK AT MOST 1048576: true; the input reads as it did. -/
def fnSafeBackUptoRow : OpenClaim := { program := "ytfgcfllboagfmaa", sum := "f12100d5f4aecf24b21be9960b8a189d2e92f9568f06d92114b009c59d8a09e7", func := "loop.example/pub-g01457/laws.FnSafeBack", spec := "fnSafeBack", apart := false, narrowed := true }
def FnSafeBackUptoSaid : Prop := fnSafeBackUptoRow.holds Try.pinned (OpenSpec.upto fnSafeBackSpec)

/-- 'laws.FnExp2One', WHERE WHAT IT READS IS OF BULK AT MOST 1048576: true; the input reads as it did. -/
def fnExp2OneUptoRow : OpenClaim := { program := "ytfgcfllboagfmaa", sum := "f12100d5f4aecf24b21be9960b8a189d2e92f9568f06d92114b009c59d8a09e7", func := "loop.example/pub-g01457/laws.FnExp2One", spec := "fnExp2One", apart := false, narrowed := true }
def FnExp2OneUptoSaid : Prop := fnExp2OneUptoRow.holds Try.pinned (OpenSpec.upto fnExp2OneSpec)

/-- 'laws.FnComOne', WHERE WHAT IT READS IS OF BULK AT MOST 1048576: true; the input reads as it did. -/
def fnComOneUptoRow : OpenClaim := { program := "ytfgcfllboagfmaa", sum := "f12100d5f4aecf24b21be9960b8a189d2e92f9568f06d92114b009c59d8a09e7", func := "loop.example/pub-g01457/laws.FnComOne", spec := "fnComOne", apart := false, narrowed := true }
def FnComOneUptoSaid : Prop := fnComOneUptoRow.holds Try.pinned (OpenSpec.upto fnComOneSpec)

/-- 'laws.FnAddOne', WHERE WHAT IT READS IS OF BULK AT MOST 1048576: true; the input reads as it did. -/
def fnAddOneUptoRow : OpenClaim := { program := "ytfgcfllboagfmaa", sum := "f12100d5f4aecf24b21be9960b8a189d2e92f9568f06d92114b009c59d8a09e7", func := "loop.example/pub-g01457/laws.FnAddOne", spec := "fnAddOne", apart := false, narrowed := true }
def FnAddOneUptoSaid : Prop := fnAddOneUptoRow.holds Try.pinned (OpenSpec.upto fnAddOneSpec)

end Rows
end Go.Proofs.Ytfgcfllboagfmaa
