/-
  No cell of these rows narrows 'for every input' (looked for: loops, veiled, ifaces, maps, wideKeys, modest, calm, conditions, laid).
  DERIVED. THE GIVEN ROWS OF THIS SEAT. 12 by the template 'for every input the law returns true; each argument reads behind the call as it read before'; 0 by the template 'total and deterministic' (their statements: YtlophbgeclojdaaTotals.lean).
  GIVEN WITH THE SEED: the statements are not yours to turn. If you find one false, say at which input.
  Laid BY PROGRAM, IN A SANDBOX (cutbox-rows.mjs): the forced cells as the released guide's own fill.sh prints them over the translation b2513856c4560852… (all of the seat's roots in one cut). By AI agents, Wed Nov 11 2026. No macro, syntax, notation, axiom, sorry.
-/
import Derived.Test.YtlophbgeclojdaaChecked
import GoSem.Claim
import GoSem.ClaimJoined
import GoSem.ClaimMapViews
import Derived.JoinedTies
import Derived.KernelRfl
namespace Go.Proofs.Ytlophbgeclojdaa
/- THE CELL 'sum', in the pinned program and in every row, IS THE sha256 OF THE DUMP (.gsa) THAT YtlophbgeclojdaaProg.lean LOADS. Nothing in Lean hashes anything: it is a label: what it is worth is what the hold of that sum in a sandbox is worth. -/
noncomputable def Try.pinned : Pinned := { name := "ytlophbgeclojdaa", sum := "b2513856c4560852ccc6fbb6cf34a0c8aa1d1410e3252c35d0fa27cfd74cf71f", checked := Try.checked }
namespace Rows
def none {H : Type} : Left H := { results := [], args := [] }

/-- 'laws.FnAddSound': WHATEVER THE INPUT: true; the input reads as it did. -/
def fnAddSoundSpec : ChangeSpec := { name := "fnAddSound", fn := fun _ => fun
  | [d1, d2, d3, d4, d5] => { results := [.lit (.bool true)], args := [d1, d2, d3, d4, d5] }
  | _ => none }
def fnAddSoundRow : OpenClaim := { program := "ytlophbgeclojdaa", sum := "b2513856c4560852ccc6fbb6cf34a0c8aa1d1410e3252c35d0fa27cfd74cf71f", func := "loop.example/pub-g01457/laws.FnAddSound", spec := "fnAddSound", apart := false }
def FnAddSoundSaid : Prop := fnAddSoundRow.holds Try.pinned (OpenSpec.ofChange fnAddSoundSpec)

/-- ITS FALSE NEIGHBOUR: 'it returns false'. Refute it at one input. -/
def fnAddSoundWrong : ChangeSpec := { name := "fnAddSound", fn := fun _ => fun
  | [d1, d2, d3, d4, d5] => { results := [.lit (.bool false)], args := [d1, d2, d3, d4, d5] }
  | _ => none }
def FnAddSoundWrongFalsely : Prop := fnAddSoundRow.holds Try.pinned (OpenSpec.ofChange fnAddSoundWrong)

/-- 'laws.FnAddSound64': WHATEVER THE INPUT: true; the input reads as it did. -/
def fnAddSound64Spec : ChangeSpec := { name := "fnAddSound64", fn := fun _ => fun
  | [d1, d2, d3, d4] => { results := [.lit (.bool true)], args := [d1, d2, d3, d4] }
  | _ => none }
def fnAddSound64Row : OpenClaim := { program := "ytlophbgeclojdaa", sum := "b2513856c4560852ccc6fbb6cf34a0c8aa1d1410e3252c35d0fa27cfd74cf71f", func := "loop.example/pub-g01457/laws.FnAddSound64", spec := "fnAddSound64", apart := false }
def FnAddSound64Said : Prop := fnAddSound64Row.holds Try.pinned (OpenSpec.ofChange fnAddSound64Spec)

/-- ITS FALSE NEIGHBOUR: 'it returns false'. Refute it at one input. -/
def fnAddSound64Wrong : ChangeSpec := { name := "fnAddSound64", fn := fun _ => fun
  | [d1, d2, d3, d4] => { results := [.lit (.bool false)], args := [d1, d2, d3, d4] }
  | _ => none }
def FnAddSound64WrongFalsely : Prop := fnAddSound64Row.holds Try.pinned (OpenSpec.ofChange fnAddSound64Wrong)

/-- 'laws.FnAddSound8': WHATEVER THE INPUT: true; the input reads as it did. -/
def fnAddSound8Spec : ChangeSpec := { name := "fnAddSound8", fn := fun _ => fun
  | [d1, d2, d3, d4] => { results := [.lit (.bool true)], args := [d1, d2, d3, d4] }
  | _ => none }
def fnAddSound8Row : OpenClaim := { program := "ytlophbgeclojdaa", sum := "b2513856c4560852ccc6fbb6cf34a0c8aa1d1410e3252c35d0fa27cfd74cf71f", func := "loop.example/pub-g01457/laws.FnAddSound8", spec := "fnAddSound8", apart := false }
def FnAddSound8Said : Prop := fnAddSound8Row.holds Try.pinned (OpenSpec.ofChange fnAddSound8Spec)

/-- ITS FALSE NEIGHBOUR: 'it returns false'. Refute it at one input. -/
def fnAddSound8Wrong : ChangeSpec := { name := "fnAddSound8", fn := fun _ => fun
  | [d1, d2, d3, d4] => { results := [.lit (.bool false)], args := [d1, d2, d3, d4] }
  | _ => none }
def FnAddSound8WrongFalsely : Prop := fnAddSound8Row.holds Try.pinned (OpenSpec.ofChange fnAddSound8Wrong)

/-- 'laws.FnNonzeroSound': WHATEVER THE INPUT: true; the input reads as it did. -/
def fnNonzeroSoundSpec : ChangeSpec := { name := "fnNonzeroSound", fn := fun _ => fun
  | [d1, d2] => { results := [.lit (.bool true)], args := [d1, d2] }
  | _ => none }
def fnNonzeroSoundRow : OpenClaim := { program := "ytlophbgeclojdaa", sum := "b2513856c4560852ccc6fbb6cf34a0c8aa1d1410e3252c35d0fa27cfd74cf71f", func := "loop.example/pub-g01457/laws.FnNonzeroSound", spec := "fnNonzeroSound", apart := false }
def FnNonzeroSoundSaid : Prop := fnNonzeroSoundRow.holds Try.pinned (OpenSpec.ofChange fnNonzeroSoundSpec)

/-- ITS FALSE NEIGHBOUR: 'it returns false'. Refute it at one input. -/
def fnNonzeroSoundWrong : ChangeSpec := { name := "fnNonzeroSound", fn := fun _ => fun
  | [d1, d2] => { results := [.lit (.bool false)], args := [d1, d2] }
  | _ => none }
def FnNonzeroSoundWrongFalsely : Prop := fnNonzeroSoundRow.holds Try.pinned (OpenSpec.ofChange fnNonzeroSoundWrong)

/-- 'laws.FnSignedMinIs': WHATEVER THE INPUT: true; the input reads as it did. -/
def fnSignedMinIsSpec : ChangeSpec := { name := "fnSignedMinIs", fn := fun _ => fun
  | [d1, d2, d3] => { results := [.lit (.bool true)], args := [d1, d2, d3] }
  | _ => none }
def fnSignedMinIsRow : OpenClaim := { program := "ytlophbgeclojdaa", sum := "b2513856c4560852ccc6fbb6cf34a0c8aa1d1410e3252c35d0fa27cfd74cf71f", func := "loop.example/pub-g01457/laws.FnSignedMinIs", spec := "fnSignedMinIs", apart := false }
def FnSignedMinIsSaid : Prop := fnSignedMinIsRow.holds Try.pinned (OpenSpec.ofChange fnSignedMinIsSpec)

/-- ITS FALSE NEIGHBOUR: 'it returns false'. Refute it at one input. -/
def fnSignedMinIsWrong : ChangeSpec := { name := "fnSignedMinIs", fn := fun _ => fun
  | [d1, d2, d3] => { results := [.lit (.bool false)], args := [d1, d2, d3] }
  | _ => none }
def FnSignedMinIsWrongFalsely : Prop := fnSignedMinIsRow.holds Try.pinned (OpenSpec.ofChange fnSignedMinIsWrong)

/-- 'laws.FnUnsignedMaxIs': WHATEVER THE INPUT: true; the input reads as it did. -/
def fnUnsignedMaxIsSpec : ChangeSpec := { name := "fnUnsignedMaxIs", fn := fun _ => fun
  | [d1, d2, d3] => { results := [.lit (.bool true)], args := [d1, d2, d3] }
  | _ => none }
def fnUnsignedMaxIsRow : OpenClaim := { program := "ytlophbgeclojdaa", sum := "b2513856c4560852ccc6fbb6cf34a0c8aa1d1410e3252c35d0fa27cfd74cf71f", func := "loop.example/pub-g01457/laws.FnUnsignedMaxIs", spec := "fnUnsignedMaxIs", apart := false }
def FnUnsignedMaxIsSaid : Prop := fnUnsignedMaxIsRow.holds Try.pinned (OpenSpec.ofChange fnUnsignedMaxIsSpec)

/-- ITS FALSE NEIGHBOUR: 'it returns false'. Refute it at one input. -/
def fnUnsignedMaxIsWrong : ChangeSpec := { name := "fnUnsignedMaxIs", fn := fun _ => fun
  | [d1, d2, d3] => { results := [.lit (.bool false)], args := [d1, d2, d3] }
  | _ => none }
def FnUnsignedMaxIsWrongFalsely : Prop := fnUnsignedMaxIsRow.holds Try.pinned (OpenSpec.ofChange fnUnsignedMaxIsWrong)

/-- 'laws.FnUnsignedMinIs': WHATEVER THE INPUT: true; the input reads as it did. -/
def fnUnsignedMinIsSpec : ChangeSpec := { name := "fnUnsignedMinIs", fn := fun _ => fun
  | [d1, d2, d3] => { results := [.lit (.bool true)], args := [d1, d2, d3] }
  | _ => none }
def fnUnsignedMinIsRow : OpenClaim := { program := "ytlophbgeclojdaa", sum := "b2513856c4560852ccc6fbb6cf34a0c8aa1d1410e3252c35d0fa27cfd74cf71f", func := "loop.example/pub-g01457/laws.FnUnsignedMinIs", spec := "fnUnsignedMinIs", apart := false }
def FnUnsignedMinIsSaid : Prop := fnUnsignedMinIsRow.holds Try.pinned (OpenSpec.ofChange fnUnsignedMinIsSpec)

/-- ITS FALSE NEIGHBOUR: 'it returns false'. Refute it at one input. -/
def fnUnsignedMinIsWrong : ChangeSpec := { name := "fnUnsignedMinIs", fn := fun _ => fun
  | [d1, d2, d3] => { results := [.lit (.bool false)], args := [d1, d2, d3] }
  | _ => none }
def FnUnsignedMinIsWrongFalsely : Prop := fnUnsignedMinIsRow.holds Try.pinned (OpenSpec.ofChange fnUnsignedMinIsWrong)

/-- 'laws.FnSignedMinMaxIs': WHATEVER THE INPUT: true; the input reads as it did. -/
def fnSignedMinMaxIsSpec : ChangeSpec := { name := "fnSignedMinMaxIs", fn := fun _ => fun
  | [d1, d2, d3, d4] => { results := [.lit (.bool true)], args := [d1, d2, d3, d4] }
  | _ => none }
def fnSignedMinMaxIsRow : OpenClaim := { program := "ytlophbgeclojdaa", sum := "b2513856c4560852ccc6fbb6cf34a0c8aa1d1410e3252c35d0fa27cfd74cf71f", func := "loop.example/pub-g01457/laws.FnSignedMinMaxIs", spec := "fnSignedMinMaxIs", apart := false }
def FnSignedMinMaxIsSaid : Prop := fnSignedMinMaxIsRow.holds Try.pinned (OpenSpec.ofChange fnSignedMinMaxIsSpec)

/-- ITS FALSE NEIGHBOUR: 'it returns false'. Refute it at one input. -/
def fnSignedMinMaxIsWrong : ChangeSpec := { name := "fnSignedMinMaxIs", fn := fun _ => fun
  | [d1, d2, d3, d4] => { results := [.lit (.bool false)], args := [d1, d2, d3, d4] }
  | _ => none }
def FnSignedMinMaxIsWrongFalsely : Prop := fnSignedMinMaxIsRow.holds Try.pinned (OpenSpec.ofChange fnSignedMinMaxIsWrong)

/-- 'laws.FnUnsignedMinMaxIs': WHATEVER THE INPUT: true; the input reads as it did. -/
def fnUnsignedMinMaxIsSpec : ChangeSpec := { name := "fnUnsignedMinMaxIs", fn := fun _ => fun
  | [d1, d2, d3, d4] => { results := [.lit (.bool true)], args := [d1, d2, d3, d4] }
  | _ => none }
def fnUnsignedMinMaxIsRow : OpenClaim := { program := "ytlophbgeclojdaa", sum := "b2513856c4560852ccc6fbb6cf34a0c8aa1d1410e3252c35d0fa27cfd74cf71f", func := "loop.example/pub-g01457/laws.FnUnsignedMinMaxIs", spec := "fnUnsignedMinMaxIs", apart := false }
def FnUnsignedMinMaxIsSaid : Prop := fnUnsignedMinMaxIsRow.holds Try.pinned (OpenSpec.ofChange fnUnsignedMinMaxIsSpec)

/-- ITS FALSE NEIGHBOUR: 'it returns false'. Refute it at one input. -/
def fnUnsignedMinMaxIsWrong : ChangeSpec := { name := "fnUnsignedMinMaxIs", fn := fun _ => fun
  | [d1, d2, d3, d4] => { results := [.lit (.bool false)], args := [d1, d2, d3, d4] }
  | _ => none }
def FnUnsignedMinMaxIsWrongFalsely : Prop := fnUnsignedMinMaxIsRow.holds Try.pinned (OpenSpec.ofChange fnUnsignedMinMaxIsWrong)

/-- 'laws.FnIntersectInside': WHATEVER THE INPUT: true; the input reads as it did. -/
def fnIntersectInsideSpec : ChangeSpec := { name := "fnIntersectInside", fn := fun _ => fun
  | [d1, d2] => { results := [.lit (.bool true)], args := [d1, d2] }
  | _ => none }
def fnIntersectInsideRow : OpenClaim := { program := "ytlophbgeclojdaa", sum := "b2513856c4560852ccc6fbb6cf34a0c8aa1d1410e3252c35d0fa27cfd74cf71f", func := "loop.example/pub-g01457/laws.FnIntersectInside", spec := "fnIntersectInside", apart := false }
def FnIntersectInsideSaid : Prop := fnIntersectInsideRow.holds Try.pinned (OpenSpec.ofChange fnIntersectInsideSpec)

/-- ITS FALSE NEIGHBOUR: 'it returns false'. Refute it at one input. -/
def fnIntersectInsideWrong : ChangeSpec := { name := "fnIntersectInside", fn := fun _ => fun
  | [d1, d2] => { results := [.lit (.bool false)], args := [d1, d2] }
  | _ => none }
def FnIntersectInsideWrongFalsely : Prop := fnIntersectInsideRow.holds Try.pinned (OpenSpec.ofChange fnIntersectInsideWrong)

/-- 'laws.FnIntersectIs': WHATEVER THE INPUT: true; the input reads as it did. -/
def fnIntersectIsSpec : ChangeSpec := { name := "fnIntersectIs", fn := fun _ => fun
  | [d1, d2, d3] => { results := [.lit (.bool true)], args := [d1, d2, d3] }
  | _ => none }
def fnIntersectIsRow : OpenClaim := { program := "ytlophbgeclojdaa", sum := "b2513856c4560852ccc6fbb6cf34a0c8aa1d1410e3252c35d0fa27cfd74cf71f", func := "loop.example/pub-g01457/laws.FnIntersectIs", spec := "fnIntersectIs", apart := false }
def FnIntersectIsSaid : Prop := fnIntersectIsRow.holds Try.pinned (OpenSpec.ofChange fnIntersectIsSpec)

/-- ITS FALSE NEIGHBOUR: 'it returns false'. Refute it at one input. -/
def fnIntersectIsWrong : ChangeSpec := { name := "fnIntersectIs", fn := fun _ => fun
  | [d1, d2, d3] => { results := [.lit (.bool false)], args := [d1, d2, d3] }
  | _ => none }
def FnIntersectIsWrongFalsely : Prop := fnIntersectIsRow.holds Try.pinned (OpenSpec.ofChange fnIntersectIsWrong)

/-- 'laws.FnIntersectOrder': WHATEVER THE INPUT: true; the input reads as it did. -/
def fnIntersectOrderSpec : ChangeSpec := { name := "fnIntersectOrder", fn := fun _ => fun
  | [d1, d2, d3] => { results := [.lit (.bool true)], args := [d1, d2, d3] }
  | _ => none }
def fnIntersectOrderRow : OpenClaim := { program := "ytlophbgeclojdaa", sum := "b2513856c4560852ccc6fbb6cf34a0c8aa1d1410e3252c35d0fa27cfd74cf71f", func := "loop.example/pub-g01457/laws.FnIntersectOrder", spec := "fnIntersectOrder", apart := false }
def FnIntersectOrderSaid : Prop := fnIntersectOrderRow.holds Try.pinned (OpenSpec.ofChange fnIntersectOrderSpec)

/-- ITS FALSE NEIGHBOUR: 'it returns false'. Refute it at one input. -/
def fnIntersectOrderWrong : ChangeSpec := { name := "fnIntersectOrder", fn := fun _ => fun
  | [d1, d2, d3] => { results := [.lit (.bool false)], args := [d1, d2, d3] }
  | _ => none }
def FnIntersectOrderWrongFalsely : Prop := fnIntersectOrderRow.holds Try.pinned (OpenSpec.ofChange fnIntersectOrderWrong)

/- THE SECOND FORM. 'bulk': how many values and letters a reading holds, each counted each time it is reached (what is shared counts as often as it is met; a slice's spare places count too). A statement '..UptoSaid' is the law's where the arguments, and the package variables that the reading takes, are together of bulk at most 1048576: NARROWER than '..Said'. Prove '..Said' where nothing that the law and all that it calls make is longer than what came in: it says more and counts as full. Else prove '..UptoSaid'. A law counts once. -/
mutual
def uptoBulk {H : Type} : DataW H → Nat
  | .lit (.string bytes) => bytes.length + 1
  | .lit _ => 1
  | .nil => 1
  | .ptr d => uptoBulk d + 1
  | .slice elems spare => uptoBulkAll elems + uptoBulkAll spare + 1
  | .agg parts => uptoBulkAll parts + 1
  | .iface _ d => uptoBulk d + 1
  | .map entries => uptoBulkEntries entries + 1
  | .held _ => 1
def uptoBulkAll {H : Type} : List (DataW H) → Nat
  | [] => 0
  | d :: r => uptoBulk d + uptoBulkAll r
def uptoBulkEntries {H : Type} : List (Lit × DataW H) → Nat
  | [] => 0
  | x :: r => uptoBulkEntry x + uptoBulkEntries r
def uptoBulkEntry {H : Type} : Lit × DataW H → Nat
  | (.string bytes, d) => bytes.length + uptoBulk d + 1
  | (_, d) => uptoBulk d + 1
 end
def uptoSmall : (H : Type) → List (DataW H) → Bool := fun _ ds => decide (uptoBulkAll ds ≤ 1048576)
def OpenSpec.upto (s : _root_.Go.ChangeSpec) : _root_.Go.OpenSpec := { _root_.Go.OpenSpec.ofChange s with cond := some uptoSmall }

/-- 'laws.FnAddSound', WHERE WHAT IT READS IS OF BULK AT MOST 1048576: true; the input reads as it did. -/
def fnAddSoundUptoRow : OpenClaim := { program := "ytlophbgeclojdaa", sum := "b2513856c4560852ccc6fbb6cf34a0c8aa1d1410e3252c35d0fa27cfd74cf71f", func := "loop.example/pub-g01457/laws.FnAddSound", spec := "fnAddSound", apart := false, narrowed := true }
def FnAddSoundUptoSaid : Prop := fnAddSoundUptoRow.holds Try.pinned (OpenSpec.upto fnAddSoundSpec)

/-- 'laws.FnAddSound64', WHERE WHAT IT READS IS OF BULK AT MOST 1048576: true; the input reads as it did. -/
def fnAddSound64UptoRow : OpenClaim := { program := "ytlophbgeclojdaa", sum := "b2513856c4560852ccc6fbb6cf34a0c8aa1d1410e3252c35d0fa27cfd74cf71f", func := "loop.example/pub-g01457/laws.FnAddSound64", spec := "fnAddSound64", apart := false, narrowed := true }
def FnAddSound64UptoSaid : Prop := fnAddSound64UptoRow.holds Try.pinned (OpenSpec.upto fnAddSound64Spec)

/-- 'laws.FnAddSound8', WHERE WHAT IT READS IS OF BULK AT MOST 1048576: true; the input reads as it did. -/
def fnAddSound8UptoRow : OpenClaim := { program := "ytlophbgeclojdaa", sum := "b2513856c4560852ccc6fbb6cf34a0c8aa1d1410e3252c35d0fa27cfd74cf71f", func := "loop.example/pub-g01457/laws.FnAddSound8", spec := "fnAddSound8", apart := false, narrowed := true }
def FnAddSound8UptoSaid : Prop := fnAddSound8UptoRow.holds Try.pinned (OpenSpec.upto fnAddSound8Spec)

/-- 'laws.FnNonzeroSound', WHERE WHAT IT READS IS OF BULK AT MOST 1048576: true; the input reads as it did. -/
def fnNonzeroSoundUptoRow : OpenClaim := { program := "ytlophbgeclojdaa", sum := "b2513856c4560852ccc6fbb6cf34a0c8aa1d1410e3252c35d0fa27cfd74cf71f", func := "loop.example/pub-g01457/laws.FnNonzeroSound", spec := "fnNonzeroSound", apart := false, narrowed := true }
def FnNonzeroSoundUptoSaid : Prop := fnNonzeroSoundUptoRow.holds Try.pinned (OpenSpec.upto fnNonzeroSoundSpec)

/-- 'laws.FnSignedMinIs', WHERE WHAT IT READS IS OF BULK AT MOST 1048576: true; the input reads as it did. -/
def fnSignedMinIsUptoRow : OpenClaim := { program := "ytlophbgeclojdaa", sum := "b2513856c4560852ccc6fbb6cf34a0c8aa1d1410e3252c35d0fa27cfd74cf71f", func := "loop.example/pub-g01457/laws.FnSignedMinIs", spec := "fnSignedMinIs", apart := false, narrowed := true }
def FnSignedMinIsUptoSaid : Prop := fnSignedMinIsUptoRow.holds Try.pinned (OpenSpec.upto fnSignedMinIsSpec)

/-- 'laws.FnUnsignedMaxIs', WHERE WHAT IT READS IS OF BULK AT MOST 1048576: true; the input reads as it did. -/
def fnUnsignedMaxIsUptoRow : OpenClaim := { program := "ytlophbgeclojdaa", sum := "b2513856c4560852ccc6fbb6cf34a0c8aa1d1410e3252c35d0fa27cfd74cf71f", func := "loop.example/pub-g01457/laws.FnUnsignedMaxIs", spec := "fnUnsignedMaxIs", apart := false, narrowed := true }
def FnUnsignedMaxIsUptoSaid : Prop := fnUnsignedMaxIsUptoRow.holds Try.pinned (OpenSpec.upto fnUnsignedMaxIsSpec)

/-- 'laws.FnUnsignedMinIs', WHERE WHAT IT READS IS OF BULK AT MOST 1048576: true; the input reads as it did. -/
def fnUnsignedMinIsUptoRow : OpenClaim := { program := "ytlophbgeclojdaa", sum := "b2513856c4560852ccc6fbb6cf34a0c8aa1d1410e3252c35d0fa27cfd74cf71f", func := "loop.example/pub-g01457/laws.FnUnsignedMinIs", spec := "fnUnsignedMinIs", apart := false, narrowed := true }
def FnUnsignedMinIsUptoSaid : Prop := fnUnsignedMinIsUptoRow.holds Try.pinned (OpenSpec.upto fnUnsignedMinIsSpec)

/-- 'laws.FnSignedMinMaxIs', WHERE WHAT IT READS IS OF BULK AT MOST 1048576: true; the input reads as it did. -/
def fnSignedMinMaxIsUptoRow : OpenClaim := { program := "ytlophbgeclojdaa", sum := "b2513856c4560852ccc6fbb6cf34a0c8aa1d1410e3252c35d0fa27cfd74cf71f", func := "loop.example/pub-g01457/laws.FnSignedMinMaxIs", spec := "fnSignedMinMaxIs", apart := false, narrowed := true }
def FnSignedMinMaxIsUptoSaid : Prop := fnSignedMinMaxIsUptoRow.holds Try.pinned (OpenSpec.upto fnSignedMinMaxIsSpec)

/-- 'laws.FnUnsignedMinMaxIs', WHERE WHAT IT READS IS OF BULK AT MOST 1048576: true; the input reads as it did. -/
def fnUnsignedMinMaxIsUptoRow : OpenClaim := { program := "ytlophbgeclojdaa", sum := "b2513856c4560852ccc6fbb6cf34a0c8aa1d1410e3252c35d0fa27cfd74cf71f", func := "loop.example/pub-g01457/laws.FnUnsignedMinMaxIs", spec := "fnUnsignedMinMaxIs", apart := false, narrowed := true }
def FnUnsignedMinMaxIsUptoSaid : Prop := fnUnsignedMinMaxIsUptoRow.holds Try.pinned (OpenSpec.upto fnUnsignedMinMaxIsSpec)

/-- 'laws.FnIntersectInside', WHERE WHAT IT READS IS OF BULK AT MOST 1048576: true; the input reads as it did. -/
def fnIntersectInsideUptoRow : OpenClaim := { program := "ytlophbgeclojdaa", sum := "b2513856c4560852ccc6fbb6cf34a0c8aa1d1410e3252c35d0fa27cfd74cf71f", func := "loop.example/pub-g01457/laws.FnIntersectInside", spec := "fnIntersectInside", apart := false, narrowed := true }
def FnIntersectInsideUptoSaid : Prop := fnIntersectInsideUptoRow.holds Try.pinned (OpenSpec.upto fnIntersectInsideSpec)

/-- 'laws.FnIntersectIs', WHERE WHAT IT READS IS OF BULK AT MOST 1048576: true; the input reads as it did. -/
def fnIntersectIsUptoRow : OpenClaim := { program := "ytlophbgeclojdaa", sum := "b2513856c4560852ccc6fbb6cf34a0c8aa1d1410e3252c35d0fa27cfd74cf71f", func := "loop.example/pub-g01457/laws.FnIntersectIs", spec := "fnIntersectIs", apart := false, narrowed := true }
def FnIntersectIsUptoSaid : Prop := fnIntersectIsUptoRow.holds Try.pinned (OpenSpec.upto fnIntersectIsSpec)

/-- 'laws.FnIntersectOrder', WHERE WHAT IT READS IS OF BULK AT MOST 1048576: true; the input reads as it did. -/
def fnIntersectOrderUptoRow : OpenClaim := { program := "ytlophbgeclojdaa", sum := "b2513856c4560852ccc6fbb6cf34a0c8aa1d1410e3252c35d0fa27cfd74cf71f", func := "loop.example/pub-g01457/laws.FnIntersectOrder", spec := "fnIntersectOrder", apart := false, narrowed := true }
def FnIntersectOrderUptoSaid : Prop := fnIntersectOrderUptoRow.holds Try.pinned (OpenSpec.upto fnIntersectOrderSpec)

end Rows
end Go.Proofs.Ytlophbgeclojdaa
