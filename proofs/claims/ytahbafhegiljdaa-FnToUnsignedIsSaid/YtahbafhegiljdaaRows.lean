/-
  No cell of these rows narrows 'for every input' (looked for: loops, veiled, ifaces, maps, wideKeys, modest, calm, conditions, laid).
  DERIVED. THE GIVEN ROWS OF THIS SEAT. 12 by the template 'for every input the law returns true; each argument reads behind the call as it read before'; 0 by the template 'total and deterministic' (their statements: YtahbafhegiljdaaTotals.lean).
  GIVEN WITH THE SEED: the statements are not yours to turn. If you find one false, say at which input.
  Laid BY PROGRAM, IN A SANDBOX (cutbox-rows.mjs): the forced cells as the released guide's own fill.sh prints them over the translation a25871c865ad1ef2… (all of the seat's roots in one cut). By AI agents, Wed Nov 11 2026. No macro, syntax, notation, axiom, sorry.
-/
import Derived.Test.YtahbafhegiljdaaChecked
import GoSem.Claim
import GoSem.ClaimJoined
import GoSem.ClaimMapViews
import Derived.JoinedTies
import Derived.KernelRfl
namespace Go.Proofs.Ytahbafhegiljdaa
/- THE CELL 'sum', in the pinned program and in every row, IS THE sha256 OF THE DUMP (.gsa) THAT YtahbafhegiljdaaProg.lean LOADS. Nothing in Lean hashes anything: it is a label: what it is worth is what the hold of that sum in a sandbox is worth. -/
noncomputable def Try.pinned : Pinned := { name := "ytahbafhegiljdaa", sum := "a25871c865ad1ef2b38dcbe4efd788ee2317c98716417aa7a71536a0665bdd85", checked := Try.checked }
namespace Rows
def none {H : Type} : Left H := { results := [], args := [] }

/-- 'laws.FnFitsUIs': WHATEVER THE INPUT: true; the input reads as it did. -/
def fnFitsUIsSpec : ChangeSpec := { name := "fnFitsUIs", fn := fun _ => fun
  | [d1, d2] => { results := [.lit (.bool true)], args := [d1, d2] }
  | _ => none }
def fnFitsUIsRow : OpenClaim := { program := "ytahbafhegiljdaa", sum := "a25871c865ad1ef2b38dcbe4efd788ee2317c98716417aa7a71536a0665bdd85", func := "loop.example/pub-g01457/laws.FnFitsUIs", spec := "fnFitsUIs", apart := false }
def FnFitsUIsSaid : Prop := fnFitsUIsRow.holds Try.pinned (OpenSpec.ofChange fnFitsUIsSpec)

/-- ITS FALSE NEIGHBOUR: 'it returns false'. Refute it at one input. -/
def fnFitsUIsWrong : ChangeSpec := { name := "fnFitsUIs", fn := fun _ => fun
  | [d1, d2] => { results := [.lit (.bool false)], args := [d1, d2] }
  | _ => none }
def FnFitsUIsWrongFalsely : Prop := fnFitsUIsRow.holds Try.pinned (OpenSpec.ofChange fnFitsUIsWrong)

/-- 'laws.FnSubUnderflowsIs': WHATEVER THE INPUT: true; the input reads as it did. -/
def fnSubUnderflowsIsSpec : ChangeSpec := { name := "fnSubUnderflowsIs", fn := fun _ => fun
  | [d1, d2] => { results := [.lit (.bool true)], args := [d1, d2] }
  | _ => none }
def fnSubUnderflowsIsRow : OpenClaim := { program := "ytahbafhegiljdaa", sum := "a25871c865ad1ef2b38dcbe4efd788ee2317c98716417aa7a71536a0665bdd85", func := "loop.example/pub-g01457/laws.FnSubUnderflowsIs", spec := "fnSubUnderflowsIs", apart := false }
def FnSubUnderflowsIsSaid : Prop := fnSubUnderflowsIsRow.holds Try.pinned (OpenSpec.ofChange fnSubUnderflowsIsSpec)

/-- ITS FALSE NEIGHBOUR: 'it returns false'. Refute it at one input. -/
def fnSubUnderflowsIsWrong : ChangeSpec := { name := "fnSubUnderflowsIs", fn := fun _ => fun
  | [d1, d2] => { results := [.lit (.bool false)], args := [d1, d2] }
  | _ => none }
def FnSubUnderflowsIsWrongFalsely : Prop := fnSubUnderflowsIsRow.holds Try.pinned (OpenSpec.ofChange fnSubUnderflowsIsWrong)

/-- 'laws.FnNoLimitAll': WHATEVER THE INPUT: true; the input reads as it did. -/
def fnNoLimitAllSpec : ChangeSpec := { name := "fnNoLimitAll", fn := fun _ => fun
  | [d1, d2] => { results := [.lit (.bool true)], args := [d1, d2] }
  | _ => none }
def fnNoLimitAllRow : OpenClaim := { program := "ytahbafhegiljdaa", sum := "a25871c865ad1ef2b38dcbe4efd788ee2317c98716417aa7a71536a0665bdd85", func := "loop.example/pub-g01457/laws.FnNoLimitAll", spec := "fnNoLimitAll", apart := false }
def FnNoLimitAllSaid : Prop := fnNoLimitAllRow.holds Try.pinned (OpenSpec.ofChange fnNoLimitAllSpec)

/-- ITS FALSE NEIGHBOUR: 'it returns false'. Refute it at one input. -/
def fnNoLimitAllWrong : ChangeSpec := { name := "fnNoLimitAll", fn := fun _ => fun
  | [d1, d2] => { results := [.lit (.bool false)], args := [d1, d2] }
  | _ => none }
def FnNoLimitAllWrongFalsely : Prop := fnNoLimitAllRow.holds Try.pinned (OpenSpec.ofChange fnNoLimitAllWrong)

/-- 'laws.FnNoLimitIs': WHATEVER THE INPUT: true; the input reads as it did. -/
def fnNoLimitIsSpec : ChangeSpec := { name := "fnNoLimitIs", fn := fun _ => fun
  | [d] => { results := [.lit (.bool true)], args := [d] }
  | _ => none }
def fnNoLimitIsRow : OpenClaim := { program := "ytahbafhegiljdaa", sum := "a25871c865ad1ef2b38dcbe4efd788ee2317c98716417aa7a71536a0665bdd85", func := "loop.example/pub-g01457/laws.FnNoLimitIs", spec := "fnNoLimitIs", apart := false }
def FnNoLimitIsSaid : Prop := fnNoLimitIsRow.holds Try.pinned (OpenSpec.ofChange fnNoLimitIsSpec)

/-- ITS FALSE NEIGHBOUR: 'it returns false'. Refute it at one input. -/
def fnNoLimitIsWrong : ChangeSpec := { name := "fnNoLimitIs", fn := fun _ => fun
  | [d] => { results := [.lit (.bool false)], args := [d] }
  | _ => none }
def FnNoLimitIsWrongFalsely : Prop := fnNoLimitIsRow.holds Try.pinned (OpenSpec.ofChange fnNoLimitIsWrong)

/-- 'laws.FnNonnegativeIs': WHATEVER THE INPUT: true; the input reads as it did. -/
def fnNonnegativeIsSpec : ChangeSpec := { name := "fnNonnegativeIs", fn := fun _ => fun
  | [d] => { results := [.lit (.bool true)], args := [d] }
  | _ => none }
def fnNonnegativeIsRow : OpenClaim := { program := "ytahbafhegiljdaa", sum := "a25871c865ad1ef2b38dcbe4efd788ee2317c98716417aa7a71536a0665bdd85", func := "loop.example/pub-g01457/laws.FnNonnegativeIs", spec := "fnNonnegativeIs", apart := false }
def FnNonnegativeIsSaid : Prop := fnNonnegativeIsRow.holds Try.pinned (OpenSpec.ofChange fnNonnegativeIsSpec)

/-- ITS FALSE NEIGHBOUR: 'it returns false'. Refute it at one input. -/
def fnNonnegativeIsWrong : ChangeSpec := { name := "fnNonnegativeIs", fn := fun _ => fun
  | [d] => { results := [.lit (.bool false)], args := [d] }
  | _ => none }
def FnNonnegativeIsWrongFalsely : Prop := fnNonnegativeIsRow.holds Try.pinned (OpenSpec.ofChange fnNonnegativeIsWrong)

/-- 'laws.FnNonnegativeSound': WHATEVER THE INPUT: true; the input reads as it did. -/
def fnNonnegativeSoundSpec : ChangeSpec := { name := "fnNonnegativeSound", fn := fun _ => fun
  | [d1, d2] => { results := [.lit (.bool true)], args := [d1, d2] }
  | _ => none }
def fnNonnegativeSoundRow : OpenClaim := { program := "ytahbafhegiljdaa", sum := "a25871c865ad1ef2b38dcbe4efd788ee2317c98716417aa7a71536a0665bdd85", func := "loop.example/pub-g01457/laws.FnNonnegativeSound", spec := "fnNonnegativeSound", apart := false }
def FnNonnegativeSoundSaid : Prop := fnNonnegativeSoundRow.holds Try.pinned (OpenSpec.ofChange fnNonnegativeSoundSpec)

/-- ITS FALSE NEIGHBOUR: 'it returns false'. Refute it at one input. -/
def fnNonnegativeSoundWrong : ChangeSpec := { name := "fnNonnegativeSound", fn := fun _ => fun
  | [d1, d2] => { results := [.lit (.bool false)], args := [d1, d2] }
  | _ => none }
def FnNonnegativeSoundWrongFalsely : Prop := fnNonnegativeSoundRow.holds Try.pinned (OpenSpec.ofChange fnNonnegativeSoundWrong)

/-- 'laws.FnNonzeroIs': WHATEVER THE INPUT: true; the input reads as it did. -/
def fnNonzeroIsSpec : ChangeSpec := { name := "fnNonzeroIs", fn := fun _ => fun
  | [d] => { results := [.lit (.bool true)], args := [d] }
  | _ => none }
def fnNonzeroIsRow : OpenClaim := { program := "ytahbafhegiljdaa", sum := "a25871c865ad1ef2b38dcbe4efd788ee2317c98716417aa7a71536a0665bdd85", func := "loop.example/pub-g01457/laws.FnNonzeroIs", spec := "fnNonzeroIs", apart := false }
def FnNonzeroIsSaid : Prop := fnNonzeroIsRow.holds Try.pinned (OpenSpec.ofChange fnNonzeroIsSpec)

/-- ITS FALSE NEIGHBOUR: 'it returns false'. Refute it at one input. -/
def fnNonzeroIsWrong : ChangeSpec := { name := "fnNonzeroIs", fn := fun _ => fun
  | [d] => { results := [.lit (.bool false)], args := [d] }
  | _ => none }
def FnNonzeroIsWrongFalsely : Prop := fnNonzeroIsRow.holds Try.pinned (OpenSpec.ofChange fnNonzeroIsWrong)

/-- 'laws.FnUnsatIs': WHATEVER THE INPUT: true; the input reads as it did. -/
def fnUnsatIsSpec : ChangeSpec := { name := "fnUnsatIs", fn := fun _ => fun
  | [d] => { results := [.lit (.bool true)], args := [d] }
  | _ => none }
def fnUnsatIsRow : OpenClaim := { program := "ytahbafhegiljdaa", sum := "a25871c865ad1ef2b38dcbe4efd788ee2317c98716417aa7a71536a0665bdd85", func := "loop.example/pub-g01457/laws.FnUnsatIs", spec := "fnUnsatIs", apart := false }
def FnUnsatIsSaid : Prop := fnUnsatIsRow.holds Try.pinned (OpenSpec.ofChange fnUnsatIsSpec)

/-- ITS FALSE NEIGHBOUR: 'it returns false'. Refute it at one input. -/
def fnUnsatIsWrong : ChangeSpec := { name := "fnUnsatIs", fn := fun _ => fun
  | [d] => { results := [.lit (.bool false)], args := [d] }
  | _ => none }
def FnUnsatIsWrongFalsely : Prop := fnUnsatIsRow.holds Try.pinned (OpenSpec.ofChange fnUnsatIsWrong)

/-- 'laws.FnUnsatSound': WHATEVER THE INPUT: true; the input reads as it did. -/
def fnUnsatSoundSpec : ChangeSpec := { name := "fnUnsatSound", fn := fun _ => fun
  | [d1, d2] => { results := [.lit (.bool true)], args := [d1, d2] }
  | _ => none }
def fnUnsatSoundRow : OpenClaim := { program := "ytahbafhegiljdaa", sum := "a25871c865ad1ef2b38dcbe4efd788ee2317c98716417aa7a71536a0665bdd85", func := "loop.example/pub-g01457/laws.FnUnsatSound", spec := "fnUnsatSound", apart := false }
def FnUnsatSoundSaid : Prop := fnUnsatSoundRow.holds Try.pinned (OpenSpec.ofChange fnUnsatSoundSpec)

/-- ITS FALSE NEIGHBOUR: 'it returns false'. Refute it at one input. -/
def fnUnsatSoundWrong : ChangeSpec := { name := "fnUnsatSound", fn := fun _ => fun
  | [d1, d2] => { results := [.lit (.bool false)], args := [d1, d2] }
  | _ => none }
def FnUnsatSoundWrongFalsely : Prop := fnUnsatSoundRow.holds Try.pinned (OpenSpec.ofChange fnUnsatSoundWrong)

/-- 'laws.FnFitsIs': WHATEVER THE INPUT: true; the input reads as it did. -/
def fnFitsIsSpec : ChangeSpec := { name := "fnFitsIs", fn := fun _ => fun
  | [d1, d2] => { results := [.lit (.bool true)], args := [d1, d2] }
  | _ => none }
def fnFitsIsRow : OpenClaim := { program := "ytahbafhegiljdaa", sum := "a25871c865ad1ef2b38dcbe4efd788ee2317c98716417aa7a71536a0665bdd85", func := "loop.example/pub-g01457/laws.FnFitsIs", spec := "fnFitsIs", apart := false }
def FnFitsIsSaid : Prop := fnFitsIsRow.holds Try.pinned (OpenSpec.ofChange fnFitsIsSpec)

/-- ITS FALSE NEIGHBOUR: 'it returns false'. Refute it at one input. -/
def fnFitsIsWrong : ChangeSpec := { name := "fnFitsIs", fn := fun _ => fun
  | [d1, d2] => { results := [.lit (.bool false)], args := [d1, d2] }
  | _ => none }
def FnFitsIsWrongFalsely : Prop := fnFitsIsRow.holds Try.pinned (OpenSpec.ofChange fnFitsIsWrong)

/-- 'laws.FnToSignedIs': WHATEVER THE INPUT: true; the input reads as it did. -/
def fnToSignedIsSpec : ChangeSpec := { name := "fnToSignedIs", fn := fun _ => fun
  | [d1, d2] => { results := [.lit (.bool true)], args := [d1, d2] }
  | _ => none }
def fnToSignedIsRow : OpenClaim := { program := "ytahbafhegiljdaa", sum := "a25871c865ad1ef2b38dcbe4efd788ee2317c98716417aa7a71536a0665bdd85", func := "loop.example/pub-g01457/laws.FnToSignedIs", spec := "fnToSignedIs", apart := false }
def FnToSignedIsSaid : Prop := fnToSignedIsRow.holds Try.pinned (OpenSpec.ofChange fnToSignedIsSpec)

/-- ITS FALSE NEIGHBOUR: 'it returns false'. Refute it at one input. -/
def fnToSignedIsWrong : ChangeSpec := { name := "fnToSignedIs", fn := fun _ => fun
  | [d1, d2] => { results := [.lit (.bool false)], args := [d1, d2] }
  | _ => none }
def FnToSignedIsWrongFalsely : Prop := fnToSignedIsRow.holds Try.pinned (OpenSpec.ofChange fnToSignedIsWrong)

/-- 'laws.FnToUnsignedIs': WHATEVER THE INPUT: true; the input reads as it did. -/
def fnToUnsignedIsSpec : ChangeSpec := { name := "fnToUnsignedIs", fn := fun _ => fun
  | [d1, d2] => { results := [.lit (.bool true)], args := [d1, d2] }
  | _ => none }
def fnToUnsignedIsRow : OpenClaim := { program := "ytahbafhegiljdaa", sum := "a25871c865ad1ef2b38dcbe4efd788ee2317c98716417aa7a71536a0665bdd85", func := "loop.example/pub-g01457/laws.FnToUnsignedIs", spec := "fnToUnsignedIs", apart := false }
def FnToUnsignedIsSaid : Prop := fnToUnsignedIsRow.holds Try.pinned (OpenSpec.ofChange fnToUnsignedIsSpec)

/-- ITS FALSE NEIGHBOUR: 'it returns false'. Refute it at one input. -/
def fnToUnsignedIsWrong : ChangeSpec := { name := "fnToUnsignedIs", fn := fun _ => fun
  | [d1, d2] => { results := [.lit (.bool false)], args := [d1, d2] }
  | _ => none }
def FnToUnsignedIsWrongFalsely : Prop := fnToUnsignedIsRow.holds Try.pinned (OpenSpec.ofChange fnToUnsignedIsWrong)

/- THE SECOND FORM. 'bulk': how many values and letters a reading holds, each counted each time it is reached (what is shared counts as often as it is met; a slice's spare places count too). A statement '..UptoSaid' is the law's where the arguments, and the package variables that the reading takes, are together of bulk at most 1048576: NARROWER than '..Said'. Prove '..Said' where nothing that the law and all that it calls make is longer than what came in: it says more and counts as full. Else prove '..UptoSaid'. A law counts once. -/
mutual
def uptoBulk {H : Type} : DataW H → Nat
  | .lit (.string bytes) => bytes.length + 1
  | .lit _ => 1
  | .nil => 1
  | .ptr d => uptoBulk d + 1
  | .slice elems spare => uptoBulkAll elems + uptoBulkAll spare + 1
  | .agg parts => uptoBulkAll parts + 1
  | .iface _ d => uptoBulk d + 1
  | .map entries => uptoBulkEntries entries + 1
  | .held _ => 1
def uptoBulkAll {H : Type} : List (DataW H) → Nat
  | [] => 0
  | d :: r => uptoBulk d + uptoBulkAll r
def uptoBulkEntries {H : Type} : List (Lit × DataW H) → Nat
  | [] => 0
  | x :: r => uptoBulkEntry x + uptoBulkEntries r
def uptoBulkEntry {H : Type} : Lit × DataW H → Nat
  | (.string bytes, d) => bytes.length + uptoBulk d + 1
  | (_, d) => uptoBulk d + 1
 end
def uptoSmall : (H : Type) → List (DataW H) → Bool := fun _ ds => decide (uptoBulkAll ds ≤ 1048576)
def OpenSpec.upto (s : _root_.Go.ChangeSpec) : _root_.Go.OpenSpec := { _root_.Go.OpenSpec.ofChange s with cond := some uptoSmall }

/-- 'laws.FnFitsUIs', WHERE WHAT IT READS IS OF BULK AT MOST 1048576: true; the input reads as it did. -/
def fnFitsUIsUptoRow : OpenClaim := { program := "ytahbafhegiljdaa", sum := "a25871c865ad1ef2b38dcbe4efd788ee2317c98716417aa7a71536a0665bdd85", func := "loop.example/pub-g01457/laws.FnFitsUIs", spec := "fnFitsUIs", apart := false, narrowed := true }
def FnFitsUIsUptoSaid : Prop := fnFitsUIsUptoRow.holds Try.pinned (OpenSpec.upto fnFitsUIsSpec)

/-- 'laws.FnSubUnderflowsIs', WHERE WHAT IT READS IS OF BULK AT MOST 1048576: true; the input reads as it did. -/
def fnSubUnderflowsIsUptoRow : OpenClaim := { program := "ytahbafhegiljdaa", sum := "a25871c865ad1ef2b38dcbe4efd788ee2317c98716417aa7a71536a0665bdd85", func := "loop.example/pub-g01457/laws.FnSubUnderflowsIs", spec := "fnSubUnderflowsIs", apart := false, narrowed := true }
def FnSubUnderflowsIsUptoSaid : Prop := fnSubUnderflowsIsUptoRow.holds Try.pinned (OpenSpec.upto fnSubUnderflowsIsSpec)

/-- 'laws.FnNoLimitAll', WHERE WHAT IT READS IS OF BULK AT MOST 1048576: true; the input reads as it did. -/
def fnNoLimitAllUptoRow : OpenClaim := { program := "ytahbafhegiljdaa", sum := "a25871c865ad1ef2b38dcbe4efd788ee2317c98716417aa7a71536a0665bdd85", func := "loop.example/pub-g01457/laws.FnNoLimitAll", spec := "fnNoLimitAll", apart := false, narrowed := true }
def FnNoLimitAllUptoSaid : Prop := fnNoLimitAllUptoRow.holds Try.pinned (OpenSpec.upto fnNoLimitAllSpec)

/-- 'laws.FnNoLimitIs', WHERE WHAT IT READS IS OF BULK AT MOST 1048576: true; the input reads as it did. -/
def fnNoLimitIsUptoRow : OpenClaim := { program := "ytahbafhegiljdaa", sum := "a25871c865ad1ef2b38dcbe4efd788ee2317c98716417aa7a71536a0665bdd85", func := "loop.example/pub-g01457/laws.FnNoLimitIs", spec := "fnNoLimitIs", apart := false, narrowed := true }
def FnNoLimitIsUptoSaid : Prop := fnNoLimitIsUptoRow.holds Try.pinned (OpenSpec.upto fnNoLimitIsSpec)

/-- 'laws.FnNonnegativeIs', WHERE WHAT IT READS IS OF BULK AT MOST 1048576: true; the input reads as it did. -/
def fnNonnegativeIsUptoRow : OpenClaim := { program := "ytahbafhegiljdaa", sum := "a25871c865ad1ef2b38dcbe4efd788ee2317c98716417aa7a71536a0665bdd85", func := "loop.example/pub-g01457/laws.FnNonnegativeIs", spec := "fnNonnegativeIs", apart := false, narrowed := true }
def FnNonnegativeIsUptoSaid : Prop := fnNonnegativeIsUptoRow.holds Try.pinned (OpenSpec.upto fnNonnegativeIsSpec)

/-- 'laws.FnNonnegativeSound', WHERE WHAT IT READS IS OF BULK AT MOST 1048576: true; the input reads as it did. -/
def fnNonnegativeSoundUptoRow : OpenClaim := { program := "ytahbafhegiljdaa", sum := "a25871c865ad1ef2b38dcbe4efd788ee2317c98716417aa7a71536a0665bdd85", func := "loop.example/pub-g01457/laws.FnNonnegativeSound", spec := "fnNonnegativeSound", apart := false, narrowed := true }
def FnNonnegativeSoundUptoSaid : Prop := fnNonnegativeSoundUptoRow.holds Try.pinned (OpenSpec.upto fnNonnegativeSoundSpec)

/-- 'laws.FnNonzeroIs', WHERE WHAT IT READS IS OF BULK AT MOST 1048576: true; the input reads as it did. -/
def fnNonzeroIsUptoRow : OpenClaim := { program := "ytahbafhegiljdaa", sum := "a25871c865ad1ef2b38dcbe4efd788ee2317c98716417aa7a71536a0665bdd85", func := "loop.example/pub-g01457/laws.FnNonzeroIs", spec := "fnNonzeroIs", apart := false, narrowed := true }
def FnNonzeroIsUptoSaid : Prop := fnNonzeroIsUptoRow.holds Try.pinned (OpenSpec.upto fnNonzeroIsSpec)

/-- 'laws.FnUnsatIs', WHERE WHAT IT READS IS OF BULK AT MOST 1048576: true; the input reads as it did. -/
def fnUnsatIsUptoRow : OpenClaim := { program := "ytahbafhegiljdaa", sum := "a25871c865ad1ef2b38dcbe4efd788ee2317c98716417aa7a71536a0665bdd85", func := "loop.example/pub-g01457/laws.FnUnsatIs", spec := "fnUnsatIs", apart := false, narrowed := true }
def FnUnsatIsUptoSaid : Prop := fnUnsatIsUptoRow.holds Try.pinned (OpenSpec.upto fnUnsatIsSpec)

/-- 'laws.FnUnsatSound', WHERE WHAT IT READS IS OF BULK AT MOST 1048576: true; the input reads as it did. -/
def fnUnsatSoundUptoRow : OpenClaim := { program := "ytahbafhegiljdaa", sum := "a25871c865ad1ef2b38dcbe4efd788ee2317c98716417aa7a71536a0665bdd85", func := "loop.example/pub-g01457/laws.FnUnsatSound", spec := "fnUnsatSound", apart := false, narrowed := true }
def FnUnsatSoundUptoSaid : Prop := fnUnsatSoundUptoRow.holds Try.pinned (OpenSpec.upto fnUnsatSoundSpec)

/-- 'laws.FnFitsIs', WHERE WHAT IT READS IS OF BULK AT MOST 1048576: true; the input reads as it did. -/
def fnFitsIsUptoRow : OpenClaim := { program := "ytahbafhegiljdaa", sum := "a25871c865ad1ef2b38dcbe4efd788ee2317c98716417aa7a71536a0665bdd85", func := "loop.example/pub-g01457/laws.FnFitsIs", spec := "fnFitsIs", apart := false, narrowed := true }
def FnFitsIsUptoSaid : Prop := fnFitsIsUptoRow.holds Try.pinned (OpenSpec.upto fnFitsIsSpec)

/-- 'laws.FnToSignedIs', WHERE WHAT IT READS IS OF BULK AT MOST 1048576: true; the input reads as it did. -/
def fnToSignedIsUptoRow : OpenClaim := { program := "ytahbafhegiljdaa", sum := "a25871c865ad1ef2b38dcbe4efd788ee2317c98716417aa7a71536a0665bdd85", func := "loop.example/pub-g01457/laws.FnToSignedIs", spec := "fnToSignedIs", apart := false, narrowed := true }
def FnToSignedIsUptoSaid : Prop := fnToSignedIsUptoRow.holds Try.pinned (OpenSpec.upto fnToSignedIsSpec)

/-- 'laws.FnToUnsignedIs', WHERE WHAT IT READS IS OF BULK AT MOST 1048576: true; the input reads as it did. -/
def fnToUnsignedIsUptoRow : OpenClaim := { program := "ytahbafhegiljdaa", sum := "a25871c865ad1ef2b38dcbe4efd788ee2317c98716417aa7a71536a0665bdd85", func := "loop.example/pub-g01457/laws.FnToUnsignedIs", spec := "fnToUnsignedIs", apart := false, narrowed := true }
def FnToUnsignedIsUptoSaid : Prop := fnToUnsignedIsUptoRow.holds Try.pinned (OpenSpec.upto fnToUnsignedIsSpec)

end Rows
end Go.Proofs.Ytahbafhegiljdaa
