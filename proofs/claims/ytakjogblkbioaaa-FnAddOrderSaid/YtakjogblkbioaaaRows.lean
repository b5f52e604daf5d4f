/-
  No cell of these rows narrows 'for every input' (looked for: loops, veiled, ifaces, maps, wideKeys, modest, calm, conditions, laid).
  DERIVED. THE GIVEN ROWS OF THIS SEAT. 11 by the template 'for every input the law returns true; each argument reads behind the call as it read before'; 0 by the template 'total and deterministic' (their statements: YtakjogblkbioaaaTotals.lean).
  GIVEN WITH THE SEED: the statements are not yours to turn. If you find one false, say at which input.
  Laid BY PROGRAM, IN A SANDBOX (cutbox-rows.mjs): the forced cells as the released guide's own fill.sh prints them over the translation 6fa929c0d9a72552… (all of the seat's roots in one cut). By AI agents, Wed Nov 11 2026. No macro, syntax, notation, axiom, sorry.
-/
import Derived.Test.YtakjogblkbioaaaChecked
import GoSem.Claim
import GoSem.ClaimJoined
import GoSem.ClaimMapViews
import Derived.JoinedTies
import Derived.KernelRfl
namespace Go.Proofs.Ytakjogblkbioaaa
/- THE CELL 'sum', in the pinned program and in every row, IS THE sha256 OF THE DUMP (.gsa) THAT YtakjogblkbioaaaProg.lean LOADS. Nothing in Lean hashes anything: it is a label: what it is worth is what the hold of that sum in a sandbox is worth. -/
noncomputable def Try.pinned : Pinned := { name := "ytakjogblkbioaaa", sum := "6fa929c0d9a7255207153e0355d47abc1cd45001b350718ab591331a4951d796", checked := Try.checked }
namespace Rows
def none {H : Type} : Left H := { results := [], args := [] }

/-- 'laws.FnBoundsByIntersect': WHATEVER THE INPUT: true; the input reads as it did. -/
def fnBoundsByIntersectSpec : ChangeSpec := { name := "fnBoundsByIntersect", fn := fun _ => fun
  | [d1, d2, d3, d4, d5] => { results := [.lit (.bool true)], args := [d1, d2, d3, d4, d5] }
  | _ => none }
def fnBoundsByIntersectRow : OpenClaim := { program := "ytakjogblkbioaaa", sum := "6fa929c0d9a7255207153e0355d47abc1cd45001b350718ab591331a4951d796", func := "loop.example/pub-g01457/laws.FnBoundsByIntersect", spec := "fnBoundsByIntersect", apart := false }
def FnBoundsByIntersectSaid : Prop := fnBoundsByIntersectRow.holds Try.pinned (OpenSpec.ofChange fnBoundsByIntersectSpec)

/-- ITS FALSE NEIGHBOUR: 'it returns false'. Refute it at one input. -/
def fnBoundsByIntersectWrong : ChangeSpec := { name := "fnBoundsByIntersect", fn := fun _ => fun
  | [d1, d2, d3, d4, d5] => { results := [.lit (.bool false)], args := [d1, d2, d3, d4, d5] }
  | _ => none }
def FnBoundsByIntersectWrongFalsely : Prop := fnBoundsByIntersectRow.holds Try.pinned (OpenSpec.ofChange fnBoundsByIntersectWrong)

/-- 'laws.FnExp2Sound': WHATEVER THE INPUT: true; the input reads as it did. -/
def fnExp2SoundSpec : ChangeSpec := { name := "fnExp2Sound", fn := fun _ => fun
  | [d1, d2, d3] => { results := [.lit (.bool true)], args := [d1, d2, d3] }
  | _ => none }
def fnExp2SoundRow : OpenClaim := { program := "ytakjogblkbioaaa", sum := "6fa929c0d9a7255207153e0355d47abc1cd45001b350718ab591331a4951d796", func := "loop.example/pub-g01457/laws.FnExp2Sound", spec := "fnExp2Sound", apart := false }
def FnExp2SoundSaid : Prop := fnExp2SoundRow.holds Try.pinned (OpenSpec.ofChange fnExp2SoundSpec)

/-- ITS FALSE NEIGHBOUR: 'it returns false'. Refute it at one input. -/
def fnExp2SoundWrong : ChangeSpec := { name := "fnExp2Sound", fn := fun _ => fun
  | [d1, d2, d3] => { results := [.lit (.bool false)], args := [d1, d2, d3] }
  | _ => none }
def FnExp2SoundWrongFalsely : Prop := fnExp2SoundRow.holds Try.pinned (OpenSpec.ofChange fnExp2SoundWrong)

/-- 'laws.FnComSound': WHATEVER THE INPUT: true; the input reads as it did. -/
def fnComSoundSpec : ChangeSpec := { name := "fnComSound", fn := fun _ => fun
  | [d1, d2, d3] => { results := [.lit (.bool true)], args := [d1, d2, d3] }
  | _ => none }
def fnComSoundRow : OpenClaim := { program := "ytakjogblkbioaaa", sum := "6fa929c0d9a7255207153e0355d47abc1cd45001b350718ab591331a4951d796", func := "loop.example/pub-g01457/laws.FnComSound", spec := "fnComSound", apart := false }
def FnComSoundSaid : Prop := fnComSoundRow.holds Try.pinned (OpenSpec.ofChange fnComSoundSpec)

/-- ITS FALSE NEIGHBOUR: 'it returns false'. Refute it at one input. -/
def fnComSoundWrong : ChangeSpec := { name := "fnComSound", fn := fun _ => fun
  | [d1, d2, d3] => { results := [.lit (.bool false)], args := [d1, d2, d3] }
  | _ => none }
def FnComSoundWrongFalsely : Prop := fnComSoundRow.holds Try.pinned (OpenSpec.ofChange fnComSoundWrong)

/-- 'laws.FnComSound64': WHATEVER THE INPUT: true; the input reads as it did. -/
def fnComSound64Spec : ChangeSpec := { name := "fnComSound64", fn := fun _ => fun
  | [d1, d2] => { results := [.lit (.bool true)], args := [d1, d2] }
  | _ => none }
def fnComSound64Row : OpenClaim := { program := "ytakjogblkbioaaa", sum := "6fa929c0d9a7255207153e0355d47abc1cd45001b350718ab591331a4951d796", func := "loop.example/pub-g01457/laws.FnComSound64", spec := "fnComSound64", apart := false }
def FnComSound64Said : Prop := fnComSound64Row.holds Try.pinned (OpenSpec.ofChange fnComSound64Spec)

/-- ITS FALSE NEIGHBOUR: 'it returns false'. Refute it at one input. -/
def fnComSound64Wrong : ChangeSpec := { name := "fnComSound64", fn := fun _ => fun
  | [d1, d2] => { results := [.lit (.bool false)], args := [d1, d2] }
  | _ => none }
def FnComSound64WrongFalsely : Prop := fnComSound64Row.holds Try.pinned (OpenSpec.ofChange fnComSound64Wrong)

/-- 'laws.FnComTight': WHATEVER THE INPUT: true; the input reads as it did. -/
def fnComTightSpec : ChangeSpec := { name := "fnComTight", fn := fun _ => fun
  | [d1, d2] => { results := [.lit (.bool true)], args := [d1, d2] }
  | _ => none }
def fnComTightRow : OpenClaim := { program := "ytakjogblkbioaaa", sum := "6fa929c0d9a7255207153e0355d47abc1cd45001b350718ab591331a4951d796", func := "loop.example/pub-g01457/laws.FnComTight", spec := "fnComTight", apart := false }
def FnComTightSaid : Prop := fnComTightRow.holds Try.pinned (OpenSpec.ofChange fnComTightSpec)

/-- ITS FALSE NEIGHBOUR: 'it returns false'. Refute it at one input. -/
def fnComTightWrong : ChangeSpec := { name := "fnComTight", fn := fun _ => fun
  | [d1, d2] => { results := [.lit (.bool false)], args := [d1, d2] }
  | _ => none }
def FnComTightWrongFalsely : Prop := fnComTightRow.holds Try.pinned (OpenSpec.ofChange fnComTightWrong)

/-- 'laws.FnComTwice': WHATEVER THE INPUT: true; the input reads as it did. -/
def fnComTwiceSpec : ChangeSpec := { name := "fnComTwice", fn := fun _ => fun
  | [d1, d2] => { results := [.lit (.bool true)], args := [d1, d2] }
  | _ => none }
def fnComTwiceRow : OpenClaim := { program := "ytakjogblkbioaaa", sum := "6fa929c0d9a7255207153e0355d47abc1cd45001b350718ab591331a4951d796", func := "loop.example/pub-g01457/laws.FnComTwice", spec := "fnComTwice", apart := false }
def FnComTwiceSaid : Prop := fnComTwiceRow.holds Try.pinned (OpenSpec.ofChange fnComTwiceSpec)

/-- ITS FALSE NEIGHBOUR: 'it returns false'. Refute it at one input. -/
def fnComTwiceWrong : ChangeSpec := { name := "fnComTwice", fn := fun _ => fun
  | [d1, d2] => { results := [.lit (.bool false)], args := [d1, d2] }
  | _ => none }
def FnComTwiceWrongFalsely : Prop := fnComTwiceRow.holds Try.pinned (OpenSpec.ofChange fnComTwiceWrong)

/-- 'laws.FnComGrows': WHATEVER THE INPUT: true; the input reads as it did. -/
def fnComGrowsSpec : ChangeSpec := { name := "fnComGrows", fn := fun _ => fun
  | [d1, d2, d3, d4] => { results := [.lit (.bool true)], args := [d1, d2, d3, d4] }
  | _ => none }
def fnComGrowsRow : OpenClaim := { program := "ytakjogblkbioaaa", sum := "6fa929c0d9a7255207153e0355d47abc1cd45001b350718ab591331a4951d796", func := "loop.example/pub-g01457/laws.FnComGrows", spec := "fnComGrows", apart := false }
def FnComGrowsSaid : Prop := fnComGrowsRow.holds Try.pinned (OpenSpec.ofChange fnComGrowsSpec)

/-- ITS FALSE NEIGHBOUR: 'it returns false'. Refute it at one input. -/
def fnComGrowsWrong : ChangeSpec := { name := "fnComGrows", fn := fun _ => fun
  | [d1, d2, d3, d4] => { results := [.lit (.bool false)], args := [d1, d2, d3, d4] }
  | _ => none }
def FnComGrowsWrongFalsely : Prop := fnComGrowsRow.holds Try.pinned (OpenSpec.ofChange fnComGrowsWrong)

/-- 'laws.FnNegSound': WHATEVER THE INPUT: true; the input reads as it did. -/
def fnNegSoundSpec : ChangeSpec := { name := "fnNegSound", fn := fun _ => fun
  | [d1, d2, d3] => { results := [.lit (.bool true)], args := [d1, d2, d3] }
  | _ => none }
def fnNegSoundRow : OpenClaim := { program := "ytakjogblkbioaaa", sum := "6fa929c0d9a7255207153e0355d47abc1cd45001b350718ab591331a4951d796", func := "loop.example/pub-g01457/laws.FnNegSound", spec := "fnNegSound", apart := false }
def FnNegSoundSaid : Prop := fnNegSoundRow.holds Try.pinned (OpenSpec.ofChange fnNegSoundSpec)

/-- ITS FALSE NEIGHBOUR: 'it returns false'. Refute it at one input. -/
def fnNegSoundWrong : ChangeSpec := { name := "fnNegSound", fn := fun _ => fun
  | [d1, d2, d3] => { results := [.lit (.bool false)], args := [d1, d2, d3] }
  | _ => none }
def FnNegSoundWrongFalsely : Prop := fnNegSoundRow.holds Try.pinned (OpenSpec.ofChange fnNegSoundWrong)

/-- 'laws.FnNegSound64': WHATEVER THE INPUT: true; the input reads as it did. -/
def fnNegSound64Spec : ChangeSpec := { name := "fnNegSound64", fn := fun _ => fun
  | [d1, d2] => { results := [.lit (.bool true)], args := [d1, d2] }
  | _ => none }
def fnNegSound64Row : OpenClaim := { program := "ytakjogblkbioaaa", sum := "6fa929c0d9a7255207153e0355d47abc1cd45001b350718ab591331a4951d796", func := "loop.example/pub-g01457/laws.FnNegSound64", spec := "fnNegSound64", apart := false }
def FnNegSound64Said : Prop := fnNegSound64Row.holds Try.pinned (OpenSpec.ofChange fnNegSound64Spec)

/-- ITS FALSE NEIGHBOUR: 'it returns false'. Refute it at one input. -/
def fnNegSound64Wrong : ChangeSpec := { name := "fnNegSound64", fn := fun _ => fun
  | [d1, d2] => { results := [.lit (.bool false)], args := [d1, d2] }
  | _ => none }
def FnNegSound64WrongFalsely : Prop := fnNegSound64Row.holds Try.pinned (OpenSpec.ofChange fnNegSound64Wrong)

/-- 'laws.FnTwiceCom': WHATEVER THE INPUT: true; the input reads as it did. -/
def fnTwiceComSpec : ChangeSpec := { name := "fnTwiceCom", fn := fun _ => fun
  | [d1, d2, d3] => { results := [.lit (.bool true)], args := [d1, d2, d3] }
  | _ => none }
def fnTwiceComRow : OpenClaim := { program := "ytakjogblkbioaaa", sum := "6fa929c0d9a7255207153e0355d47abc1cd45001b350718ab591331a4951d796", func := "loop.example/pub-g01457/laws.FnTwiceCom", spec := "fnTwiceCom", apart := false }
def FnTwiceComSaid : Prop := fnTwiceComRow.holds Try.pinned (OpenSpec.ofChange fnTwiceComSpec)

/-- ITS FALSE NEIGHBOUR: 'it returns false'. Refute it at one input. -/
def fnTwiceComWrong : ChangeSpec := { name := "fnTwiceCom", fn := fun _ => fun
  | [d1, d2, d3] => { results := [.lit (.bool false)], args := [d1, d2, d3] }
  | _ => none }
def FnTwiceComWrongFalsely : Prop := fnTwiceComRow.holds Try.pinned (OpenSpec.ofChange fnTwiceComWrong)

/-- 'laws.FnAddOrder': WHATEVER THE INPUT: true; the input reads as it did. -/
def fnAddOrderSpec : ChangeSpec := { name := "fnAddOrder", fn := fun _ => fun
  | [d1, d2, d3] => { results := [.lit (.bool true)], args := [d1, d2, d3] }
  | _ => none }
def fnAddOrderRow : OpenClaim := { program := "ytakjogblkbioaaa", sum := "6fa929c0d9a7255207153e0355d47abc1cd45001b350718ab591331a4951d796", func := "loop.example/pub-g01457/laws.FnAddOrder", spec := "fnAddOrder", apart := false }
def FnAddOrderSaid : Prop := fnAddOrderRow.holds Try.pinned (OpenSpec.ofChange fnAddOrderSpec)

/-- ITS FALSE NEIGHBOUR: 'it returns false'. Refute it at one input. -/
def fnAddOrderWrong : ChangeSpec := { name := "fnAddOrder", fn := fun _ => fun
  | [d1, d2, d3] => { results := [.lit (.bool false)], args := [d1, d2, d3] }
  | _ => none }
def FnAddOrderWrongFalsely : Prop := fnAddOrderRow.holds Try.pinned (OpenSpec.ofChange fnAddOrderWrong)

/- THE SECOND FORM. 'bulk': how many values and letters a reading holds, each counted each time it is reached (what is shared counts as often as it is met; a slice's spare places count too). A statement '..UptoSaid' is the law's where the arguments, and the package variables that the reading takes, are together of bulk at most 1048576: NARROWER than '..Said'. Prove '..Said' where nothing that the law and all that it calls make is longer than what came in: it says more and counts as full. Else prove '..UptoSaid'. A law counts once. -/
mutual
def uptoBulk {H : Type} : DataW H → Nat
  | .lit (.string bytes) => bytes.length + 1
  | .lit _ => 1
  | .nil => 1
  | .ptr d => uptoBulk d + 1
  | .slice elems spare => uptoBulkAll elems + uptoBulkAll spare + 1
  | .agg parts => uptoBulkAll parts + 1
  | .iface _ d => uptoBulk d + 1
  | .map entries => uptoBulkEntries entries + 1
  | .held _ => 1
def uptoBulkAll {H : Type} : List (DataW H) → Nat
  | [] => 0
  | d :: r => uptoBulk d + uptoBulkAll r
def uptoBulkEntries {H : Type} : List (Lit × DataW H) → Nat
  | [] => 0
  | x :: r => uptoBulkEntry x + uptoBulkEntries r
def uptoBulkEntry {H : Type} : Lit × DataW H → Nat
  | (.string bytes, d) => bytes.length + uptoBulk d + 1
  | (_, d) => uptoBulk d + 1
 end
def uptoSmall : (H : Type) → List (DataW H) → Bool := fun _ ds => decide (uptoBulkAll ds ≤ 1048576)
def OpenSpec.upto (s : _root_.Go.ChangeSpec) : _root_.Go.OpenSpec := { _root_.Go.OpenSpec.ofChange s with cond := some uptoSmall }

/-- 'laws.FnBoundsByIntersect', WHERE WHAT IT READS IS OF BULK AT MOST 1048576: true; the input reads as it did. -/
def fnBoundsByIntersectUptoRow : OpenClaim := { program := "ytakjogblkbioaaa", sum := "6fa929c0d9a7255207153e0355d47abc1cd45001b350718ab591331a4951d796", func := "loop.example/pub-g01457/laws.FnBoundsByIntersect", spec := "fnBoundsByIntersect", apart := false, narrowed := true }
def FnBoundsByIntersectUptoSaid : Prop := fnBoundsByIntersectUptoRow.holds Try.pinned (OpenSpec.upto fnBoundsByIntersectSpec)

/-- 'laws.FnExp2Sound', WHERE WHAT IT READS IS OF BULK AT MOST 1048576: true; the input reads as it did. -/
def fnExp2SoundUptoRow : OpenClaim := { program := "ytakjogblkbioaaa", sum := "6fa929c0d9a7255207153e0355d47abc1cd45001b350718ab591331a4951d796", func := "loop.example/pub-g01457/laws.FnExp2Sound", spec := "fnExp2Sound", apart := false, narrowed := true }
def FnExp2SoundUptoSaid : Prop := fnExp2SoundUptoRow.holds Try.pinned (OpenSpec.upto fnExp2SoundSpec)

/-- 'laws.FnComSound', WHERE WHAT IT READS IS OF BULK AT MOST 1048576: true; the input reads as it did. -/
def fnComSoundUptoRow : OpenClaim := { program := "ytakjogblkbioaaa", sum := "6fa929c0d9a7255207153e0355d47abc1cd45001b350718ab591331a4951d796", func := "loop.example/pub-g01457/laws.FnComSound", spec := "fnComSound", apart := false, narrowed := true }
def FnComSoundUptoSaid : Prop := fnComSoundUptoRow.holds Try.pinned (OpenSpec.upto fnComSoundSpec)

/-- 'laws.FnComSound64', WHERE WHAT IT READS IS OF BULK AT MOST 1048576: true; the input reads as it did. -/
def fnComSound64UptoRow : OpenClaim := { program := "ytakjogblkbioaaa", sum := "6fa929c0d9a7255207153e0355d47abc1cd45001b350718ab591331a4951d796", func := "loop.example/pub-g01457/laws.FnComSound64", spec := "fnComSound64", apart := false, narrowed := true }
def FnComSound64UptoSaid : Prop := fnComSound64UptoRow.holds Try.pinned (OpenSpec.upto fnComSound64Spec)

/-- 'laws.FnComTight', WHERE WHAT IT READS IS OF BULK AT MOST 1048576: true; the input reads as it did. -/
def fnComTightUptoRow : OpenClaim := { program := "ytakjogblkbioaaa", sum := "6fa929c0d9a7255207153e0355d47abc1cd45001b350718ab591331a4951d796", func := "loop.example/pub-g01457/laws.FnComTight", spec := "fnComTight", apart := false, narrowed := true }
def FnComTightUptoSaid : Prop := fnComTightUptoRow.holds Try.pinned (OpenSpec.upto fnComTightSpec)

/-- 'laws.FnComTwice', WHERE WHAT IT READS IS OF BULK AT MOST 1048576: true; the input reads as it did. -/
def fnComTwiceUptoRow : OpenClaim := { program := "ytakjogblkbioaaa", sum := "6fa929c0d9a7255207153e0355d47abc1cd45001b350718ab591331a4951d796", func := "loop.example/pub-g01457/laws.FnComTwice", spec := "fnComTwice", apart := false, narrowed := true }
def FnComTwiceUptoSaid : Prop := fnComTwiceUptoRow.holds Try.pinned (OpenSpec.upto fnComTwiceSpec)

/-- 'laws.FnComGrows', WHERE WHAT IT READS IS OF BULK AT MOST 1048576: true; the input reads as it did. -/
def fnComGrowsUptoRow : OpenClaim := { program := "ytakjogblkbioaaa", sum := "6fa929c0d9a7255207153e0355d47abc1cd45001b350718ab591331a4951d796", func := "loop.example/pub-g01457/laws.FnComGrows", spec := "fnComGrows", apart := false, narrowed := true }
def FnComGrowsUptoSaid : Prop := fnComGrowsUptoRow.holds Try.pinned (OpenSpec.upto fnComGrowsSpec)

/-- 'laws.FnNegSound', WHERE WHAT IT READS IS OF BULK AT MOST 1048576: true; the input reads as it did. -/
def fnNegSoundUptoRow : OpenClaim := { program := "ytakjogblkbioaaa", sum := "6fa929c0d9a7255207153e0355d47abc1cd45001b350718ab591331a4951d796", func := "loop.example/pub-g01457/laws.FnNegSound", spec := "fnNegSound", apart := false, narrowed := true }
def FnNegSoundUptoSaid : Prop := fnNegSoundUptoRow.holds Try.pinned (OpenSpec.upto fnNegSoundSpec)

/-- 'laws.FnNegSound64', WHERE WHAT IT READS IS OF BULK AT MOST 1048576: true; the input reads as it did. -/
def fnNegSound64UptoRow : OpenClaim := { program := "ytakjogblkbioaaa", sum := "6fa929c0d9a7255207153e0355d47abc1cd45001b350718ab591331a4951d796", func := "loop.example/pub-g01457/laws.FnNegSound64", spec := "fnNegSound64", apart := false, narrowed := true }
def FnNegSound64UptoSaid : Prop := fnNegSound64UptoRow.holds Try.pinned (OpenSpec.upto fnNegSound64Spec)

/-- 'laws.FnTwiceCom', WHERE WHAT IT READS IS OF BULK AT MOST 1048576: true; the input reads as it did. -/
def fnTwiceComUptoRow : OpenClaim := { program := "ytakjogblkbioaaa", sum := "6fa929c0d9a7255207153e0355d47abc1cd45001b350718ab591331a4951d796", func := "loop.example/pub-g01457/laws.FnTwiceCom", spec := "fnTwiceCom", apart := false, narrowed := true }
def FnTwiceComUptoSaid : Prop := fnTwiceComUptoRow.holds Try.pinned (OpenSpec.upto fnTwiceComSpec)

/-- 'laws.FnAddOrder', WHERE WHAT IT READS IS OF BULK AT MOST 1048576: true; the input reads as it did. -/
def fnAddOrderUptoRow : OpenClaim := { program := "ytakjogblkbioaaa", sum := "6fa929c0d9a7255207153e0355d47abc1cd45001b350718ab591331a4951d796", func := "loop.example/pub-g01457/laws.FnAddOrder", spec := "fnAddOrder", apart := false, narrowed := true }
def FnAddOrderUptoSaid : Prop := fnAddOrderUptoRow.holds Try.pinned (OpenSpec.upto fnAddOrderSpec)

end Rows
end Go.Proofs.Ytakjogblkbioaaa
