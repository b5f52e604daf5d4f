/-
  No cell of these rows narrows 'for every input' (looked for: loops, veiled, ifaces, maps, wideKeys, modest, calm, conditions, laid).
  DERIVED. THE GIVEN ROWS OF THIS SEAT. 12 by the template 'for every input the law returns true; each argument reads behind the call as it read before'; 0 by the template 'total and deterministic' (their statements: YtcnhhgglgfaheaaTotals.lean).
  GIVEN WITH THE SEED: the statements are not yours to turn. If you find one false, say at which input.
  Laid BY PROGRAM, IN A SANDBOX (cutbox-rows.mjs): the forced cells as the released guide's own fill.sh prints them over the translation 392afc9b0d7fa9b6… (all of the seat's roots in one cut). By AI agents, Wed Nov 11 2026. No macro, syntax, notation, axiom, sorry.
-/
import Derived.Test.YtcnhhgglgfaheaaChecked
import GoSem.Claim
import GoSem.ClaimJoined
import GoSem.ClaimMapViews
import Derived.JoinedTies
import Derived.KernelRfl
namespace Go.Proofs.Ytcnhhgglgfaheaa
/- THE CELL 'sum', in the pinned program and in every row, IS THE sha256 OF THE DUMP (.gsa) THAT YtcnhhgglgfaheaaProg.lean LOADS. Nothing in Lean hashes anything: it is a label: what it is worth is what the hold of that sum in a sandbox is worth. -/
noncomputable def Try.pinned : Pinned := { name := "ytcnhhgglgfaheaa", sum := "392afc9b0d7fa9b6696b593aadc87d5c5d23dda2038bdcbcba0e30219afe8399", checked := Try.checked }
namespace Rows
def none {H : Type} : Left H := { results := [], args := [] }

/-- 'laws.FnMulGrows': WHATEVER THE INPUT: true; the input reads as it did. -/
def fnMulGrowsSpec : ChangeSpec := { name := "fnMulGrows", fn := fun _ => fun
  | [d1, d2, d3, d4, d5, d6] => { results := [.lit (.bool true)], args := [d1, d2, d3, d4, d5, d6] }
  | _ => none }
def fnMulGrowsRow : OpenClaim := { program := "ytcnhhgglgfaheaa", sum := "392afc9b0d7fa9b6696b593aadc87d5c5d23dda2038bdcbcba0e30219afe8399", func := "loop.example/pub-g01457/laws.FnMulGrows", spec := "fnMulGrows", apart := false }
def FnMulGrowsSaid : Prop := fnMulGrowsRow.holds Try.pinned (OpenSpec.ofChange fnMulGrowsSpec)

/-- ITS FALSE NEIGHBOUR: 'it returns false'. Refute it at one input. -/
def fnMulGrowsWrong : ChangeSpec := { name := "fnMulGrows", fn := fun _ => fun
  | [d1, d2, d3, d4, d5, d6] => { results := [.lit (.bool false)], args := [d1, d2, d3, d4, d5, d6] }
  | _ => none }
def FnMulGrowsWrongFalsely : Prop := fnMulGrowsRow.holds Try.pinned (OpenSpec.ofChange fnMulGrowsWrong)

/-- 'laws.FnMulSound': WHATEVER THE INPUT: true; the input reads as it did. -/
def fnMulSoundSpec : ChangeSpec := { name := "fnMulSound", fn := fun _ => fun
  | [d1, d2, d3, d4, d5] => { results := [.lit (.bool true)], args := [d1, d2, d3, d4, d5] }
  | _ => none }
def fnMulSoundRow : OpenClaim := { program := "ytcnhhgglgfaheaa", sum := "392afc9b0d7fa9b6696b593aadc87d5c5d23dda2038bdcbcba0e30219afe8399", func := "loop.example/pub-g01457/laws.FnMulSound", spec := "fnMulSound", apart := false }
def FnMulSoundSaid : Prop := fnMulSoundRow.holds Try.pinned (OpenSpec.ofChange fnMulSoundSpec)

/-- ITS FALSE NEIGHBOUR: 'it returns false'. Refute it at one input. -/
def fnMulSoundWrong : ChangeSpec := { name := "fnMulSound", fn := fun _ => fun
  | [d1, d2, d3, d4, d5] => { results := [.lit (.bool false)], args := [d1, d2, d3, d4, d5] }
  | _ => none }
def FnMulSoundWrongFalsely : Prop := fnMulSoundRow.holds Try.pinned (OpenSpec.ofChange fnMulSoundWrong)

/-- 'laws.FnMulSound64': WHATEVER THE INPUT: true; the input reads as it did. -/
def fnMulSound64Spec : ChangeSpec := { name := "fnMulSound64", fn := fun _ => fun
  | [d1, d2, d3, d4] => { results := [.lit (.bool true)], args := [d1, d2, d3, d4] }
  | _ => none }
def fnMulSound64Row : OpenClaim := { program := "ytcnhhgglgfaheaa", sum := "392afc9b0d7fa9b6696b593aadc87d5c5d23dda2038bdcbcba0e30219afe8399", func := "loop.example/pub-g01457/laws.FnMulSound64", spec := "fnMulSound64", apart := false }
def FnMulSound64Said : Prop := fnMulSound64Row.holds Try.pinned (OpenSpec.ofChange fnMulSound64Spec)

/-- ITS FALSE NEIGHBOUR: 'it returns false'. Refute it at one input. -/
def fnMulSound64Wrong : ChangeSpec := { name := "fnMulSound64", fn := fun _ => fun
  | [d1, d2, d3, d4] => { results := [.lit (.bool false)], args := [d1, d2, d3, d4] }
  | _ => none }
def FnMulSound64WrongFalsely : Prop := fnMulSound64Row.holds Try.pinned (OpenSpec.ofChange fnMulSound64Wrong)

/-- 'laws.FnMulSound8': WHATEVER THE INPUT: true; the input reads as it did. -/
def fnMulSound8Spec : ChangeSpec := { name := "fnMulSound8", fn := fun _ => fun
  | [d1, d2, d3, d4] => { results := [.lit (.bool true)], args := [d1, d2, d3, d4] }
  | _ => none }
def fnMulSound8Row : OpenClaim := { program := "ytcnhhgglgfaheaa", sum := "392afc9b0d7fa9b6696b593aadc87d5c5d23dda2038bdcbcba0e30219afe8399", func := "loop.example/pub-g01457/laws.FnMulSound8", spec := "fnMulSound8", apart := false }
def FnMulSound8Said : Prop := fnMulSound8Row.holds Try.pinned (OpenSpec.ofChange fnMulSound8Spec)

/-- ITS FALSE NEIGHBOUR: 'it returns false'. Refute it at one input. -/
def fnMulSound8Wrong : ChangeSpec := { name := "fnMulSound8", fn := fun _ => fun
  | [d1, d2, d3, d4] => { results := [.lit (.bool false)], args := [d1, d2, d3, d4] }
  | _ => none }
def FnMulSound8WrongFalsely : Prop := fnMulSound8Row.holds Try.pinned (OpenSpec.ofChange fnMulSound8Wrong)

/-- 'laws.FnMulAddSound': WHATEVER THE INPUT: true; the input reads as it did. -/
def fnMulAddSoundSpec : ChangeSpec := { name := "fnMulAddSound", fn := fun _ => fun
  | [d1, d2, d3, d4, d5, d6, d7] => { results := [.lit (.bool true)], args := [d1, d2, d3, d4, d5, d6, d7] }
  | _ => none }
def fnMulAddSoundRow : OpenClaim := { program := "ytcnhhgglgfaheaa", sum := "392afc9b0d7fa9b6696b593aadc87d5c5d23dda2038bdcbcba0e30219afe8399", func := "loop.example/pub-g01457/laws.FnMulAddSound", spec := "fnMulAddSound", apart := false }
def FnMulAddSoundSaid : Prop := fnMulAddSoundRow.holds Try.pinned (OpenSpec.ofChange fnMulAddSoundSpec)

/-- ITS FALSE NEIGHBOUR: 'it returns false'. Refute it at one input. -/
def fnMulAddSoundWrong : ChangeSpec := { name := "fnMulAddSound", fn := fun _ => fun
  | [d1, d2, d3, d4, d5, d6, d7] => { results := [.lit (.bool false)], args := [d1, d2, d3, d4, d5, d6, d7] }
  | _ => none }
def FnMulAddSoundWrongFalsely : Prop := fnMulAddSoundRow.holds Try.pinned (OpenSpec.ofChange fnMulAddSoundWrong)

/-- 'laws.FnSubGrows': WHATEVER THE INPUT: true; the input reads as it did. -/
def fnSubGrowsSpec : ChangeSpec := { name := "fnSubGrows", fn := fun _ => fun
  | [d1, d2, d3, d4, d5, d6] => { results := [.lit (.bool true)], args := [d1, d2, d3, d4, d5, d6] }
  | _ => none }
def fnSubGrowsRow : OpenClaim := { program := "ytcnhhgglgfaheaa", sum := "392afc9b0d7fa9b6696b593aadc87d5c5d23dda2038bdcbcba0e30219afe8399", func := "loop.example/pub-g01457/laws.FnSubGrows", spec := "fnSubGrows", apart := false }
def FnSubGrowsSaid : Prop := fnSubGrowsRow.holds Try.pinned (OpenSpec.ofChange fnSubGrowsSpec)

/-- ITS FALSE NEIGHBOUR: 'it returns false'. Refute it at one input. -/
def fnSubGrowsWrong : ChangeSpec := { name := "fnSubGrows", fn := fun _ => fun
  | [d1, d2, d3, d4, d5, d6] => { results := [.lit (.bool false)], args := [d1, d2, d3, d4, d5, d6] }
  | _ => none }
def FnSubGrowsWrongFalsely : Prop := fnSubGrowsRow.holds Try.pinned (OpenSpec.ofChange fnSubGrowsWrong)

/-- 'laws.FnSubOne': WHATEVER THE INPUT: true; the input reads as it did. -/
def fnSubOneSpec : ChangeSpec := { name := "fnSubOne", fn := fun _ => fun
  | [d1, d2, d3] => { results := [.lit (.bool true)], args := [d1, d2, d3] }
  | _ => none }
def fnSubOneRow : OpenClaim := { program := "ytcnhhgglgfaheaa", sum := "392afc9b0d7fa9b6696b593aadc87d5c5d23dda2038bdcbcba0e30219afe8399", func := "loop.example/pub-g01457/laws.FnSubOne", spec := "fnSubOne", apart := false }
def FnSubOneSaid : Prop := fnSubOneRow.holds Try.pinned (OpenSpec.ofChange fnSubOneSpec)

/-- ITS FALSE NEIGHBOUR: 'it returns false'. Refute it at one input. -/
def fnSubOneWrong : ChangeSpec := { name := "fnSubOne", fn := fun _ => fun
  | [d1, d2, d3] => { results := [.lit (.bool false)], args := [d1, d2, d3] }
  | _ => none }
def FnSubOneWrongFalsely : Prop := fnSubOneRow.holds Try.pinned (OpenSpec.ofChange fnSubOneWrong)

/-- 'laws.FnSubSound': WHATEVER THE INPUT: true; the input reads as it did. -/
def fnSubSoundSpec : ChangeSpec := { name := "fnSubSound", fn := fun _ => fun
  | [d1, d2, d3, d4, d5] => { results := [.lit (.bool true)], args := [d1, d2, d3, d4, d5] }
  | _ => none }
def fnSubSoundRow : OpenClaim := { program := "ytcnhhgglgfaheaa", sum := "392afc9b0d7fa9b6696b593aadc87d5c5d23dda2038bdcbcba0e30219afe8399", func := "loop.example/pub-g01457/laws.FnSubSound", spec := "fnSubSound", apart := false }
def FnSubSoundSaid : Prop := fnSubSoundRow.holds Try.pinned (OpenSpec.ofChange fnSubSoundSpec)

/-- ITS FALSE NEIGHBOUR: 'it returns false'. Refute it at one input. -/
def fnSubSoundWrong : ChangeSpec := { name := "fnSubSound", fn := fun _ => fun
  | [d1, d2, d3, d4, d5] => { results := [.lit (.bool false)], args := [d1, d2, d3, d4, d5] }
  | _ => none }
def FnSubSoundWrongFalsely : Prop := fnSubSoundRow.holds Try.pinned (OpenSpec.ofChange fnSubSoundWrong)

/-- 'laws.FnSubSound64': WHATEVER THE INPUT: true; the input reads as it did. -/
def fnSubSound64Spec : ChangeSpec := { name := "fnSubSound64", fn := fun _ => fun
  | [d1, d2, d3, d4] => { results := [.lit (.bool true)], args := [d1, d2, d3, d4] }
  | _ => none }
def fnSubSound64Row : OpenClaim := { program := "ytcnhhgglgfaheaa", sum := "392afc9b0d7fa9b6696b593aadc87d5c5d23dda2038bdcbcba0e30219afe8399", func := "loop.example/pub-g01457/laws.FnSubSound64", spec := "fnSubSound64", apart := false }
def FnSubSound64Said : Prop := fnSubSound64Row.holds Try.pinned (OpenSpec.ofChange fnSubSound64Spec)

/-- ITS FALSE NEIGHBOUR: 'it returns false'. Refute it at one input. -/
def fnSubSound64Wrong : ChangeSpec := { name := "fnSubSound64", fn := fun _ => fun
  | [d1, d2, d3, d4] => { results := [.lit (.bool false)], args := [d1, d2, d3, d4] }
  | _ => none }
def FnSubSound64WrongFalsely : Prop := fnSubSound64Row.holds Try.pinned (OpenSpec.ofChange fnSubSound64Wrong)

/-- 'laws.FnSubSound8': WHATEVER THE INPUT: true; the input reads as it did. -/
def fnSubSound8Spec : ChangeSpec := { name := "fnSubSound8", fn := fun _ => fun
  | [d1, d2, d3, d4] => { results := [.lit (.bool true)], args := [d1, d2, d3, d4] }
  | _ => none }
def fnSubSound8Row : OpenClaim := { program := "ytcnhhgglgfaheaa", sum := "392afc9b0d7fa9b6696b593aadc87d5c5d23dda2038bdcbcba0e30219afe8399", func := "loop.example/pub-g01457/laws.FnSubSound8", spec := "fnSubSound8", apart := false }
def FnSubSound8Said : Prop := fnSubSound8Row.holds Try.pinned (OpenSpec.ofChange fnSubSound8Spec)

/-- ITS FALSE NEIGHBOUR: 'it returns false'. Refute it at one input. -/
def fnSubSound8Wrong : ChangeSpec := { name := "fnSubSound8", fn := fun _ => fun
  | [d1, d2, d3, d4] => { results := [.lit (.bool false)], args := [d1, d2, d3, d4] }
  | _ => none }
def FnSubSound8WrongFalsely : Prop := fnSubSound8Row.holds Try.pinned (OpenSpec.ofChange fnSubSound8Wrong)

/-- 'laws.FnSubTightSigned': WHATEVER THE INPUT: true; the input reads as it did. -/
def fnSubTightSignedSpec : ChangeSpec := { name := "fnSubTightSigned", fn := fun _ => fun
  | [d1, d2, d3, d4, d5] => { results := [.lit (.bool true)], args := [d1, d2, d3, d4, d5] }
  | _ => none }
def fnSubTightSignedRow : OpenClaim := { program := "ytcnhhgglgfaheaa", sum := "392afc9b0d7fa9b6696b593aadc87d5c5d23dda2038bdcbcba0e30219afe8399", func := "loop.example/pub-g01457/laws.FnSubTightSigned", spec := "fnSubTightSigned", apart := false }
def FnSubTightSignedSaid : Prop := fnSubTightSignedRow.holds Try.pinned (OpenSpec.ofChange fnSubTightSignedSpec)

/-- ITS FALSE NEIGHBOUR: 'it returns false'. Refute it at one input. -/
def fnSubTightSignedWrong : ChangeSpec := { name := "fnSubTightSigned", fn := fun _ => fun
  | [d1, d2, d3, d4, d5] => { results := [.lit (.bool false)], args := [d1, d2, d3, d4, d5] }
  | _ => none }
def FnSubTightSignedWrongFalsely : Prop := fnSubTightSignedRow.holds Try.pinned (OpenSpec.ofChange fnSubTightSignedWrong)

/-- 'laws.FnSubTightUnsigned': WHATEVER THE INPUT: true; the input reads as it did. -/
def fnSubTightUnsignedSpec : ChangeSpec := { name := "fnSubTightUnsigned", fn := fun _ => fun
  | [d1, d2, d3, d4, d5] => { results := [.lit (.bool true)], args := [d1, d2, d3, d4, d5] }
  | _ => none }
def fnSubTightUnsignedRow : OpenClaim := { program := "ytcnhhgglgfaheaa", sum := "392afc9b0d7fa9b6696b593aadc87d5c5d23dda2038bdcbcba0e30219afe8399", func := "loop.example/pub-g01457/laws.FnSubTightUnsigned", spec := "fnSubTightUnsigned", apart := false }
def FnSubTightUnsignedSaid : Prop := fnSubTightUnsignedRow.holds Try.pinned (OpenSpec.ofChange fnSubTightUnsignedSpec)

/-- ITS FALSE NEIGHBOUR: 'it returns false'. Refute it at one input. -/
def fnSubTightUnsignedWrong : ChangeSpec := { name := "fnSubTightUnsigned", fn := fun _ => fun
  | [d1, d2, d3, d4, d5] => { results := [.lit (.bool false)], args := [d1, d2, d3, d4, d5] }
  | _ => none }
def FnSubTightUnsignedWrongFalsely : Prop := fnSubTightUnsignedRow.holds Try.pinned (OpenSpec.ofChange fnSubTightUnsignedWrong)

/- THE SECOND FORM. 'bulk': how many values and letters a reading holds, each counted each time it is reached (what is shared counts as often as it is met; a slice's spare places count too). A statement '..UptoSaid' is the law's where the arguments, and the package variables that the reading takes, are together of bulk at most 1048576: NARROWER than '..Said'. Prove '..Said' where nothing that the law and all that it calls make is longer than what came in: it says more and counts as full. Else prove '..UptoSaid'. A law counts once. -/
mutual
def uptoBulk {H : Type} : DataW H → Nat
  | .lit (.string bytes) => bytes.length + 1
  | .lit _ => 1
  | .nil => 1
  | .ptr d => uptoBulk d + 1
  | .slice elems spare => uptoBulkAll elems + uptoBulkAll spare + 1
  | .agg parts => uptoBulkAll parts + 1
  | .iface _ d => uptoBulk d + 1
  | .map entries => uptoBulkEntries entries + 1
  | .held _ => 1
def uptoBulkAll {H : Type} : List (DataW H) → Nat
  | [] => 0
  | d :: r => uptoBulk d + uptoBulkAll r
def uptoBulkEntries {H : Type} : List (Lit × DataW H) → Nat
  | [] => 0
  | x :: r => uptoBulkEntry x + uptoBulkEntries r
def uptoBulkEntry {H : Type} : Lit × DataW H → Nat
  | (.string bytes, d) => bytes.length + uptoBulk d + 1
  | (_, d) => uptoBulk d + 1
 end
def uptoSmall : (H : Type) → List (DataW H) → Bool := fun _ ds => decide (uptoBulkAll ds ≤ 1048576)
def OpenSpec.upto (s : _root_.Go.ChangeSpec) : _root_.Go.OpenSpec := { _root_.Go.OpenSpec.ofChange s with cond := some uptoSmall }

/-- 'laws.FnMulGrows', WHERE WHAT IT READS IS OF BULK AT MOST 1048576: true; the input reads as it did. -/
def fnMulGrowsUptoRow : OpenClaim := { program := "ytcnhhgglgfaheaa", sum := "392afc9b0d7fa9b6696b593aadc87d5c5d23dda2038bdcbcba0e30219afe8399", func := "loop.example/pub-g01457/laws.FnMulGrows", spec := "fnMulGrows", apart := false, narrowed := true }
def FnMulGrowsUptoSaid : Prop := fnMulGrowsUptoRow.holds Try.pinned (OpenSpec.upto fnMulGrowsSpec)

/-- 'laws.FnMulSound', WHERE WHAT IT READS IS OF BULK AT MOST 1048576: true; the input reads as it did. -/
def fnMulSoundUptoRow : OpenClaim := { program := "ytcnhhgglgfaheaa", sum := "392afc9b0d7fa9b6696b593aadc87d5c5d23dda2038bdcbcba0e30219afe8399", func := "loop.example/pub-g01457/laws.FnMulSound", spec := "fnMulSound", apart := false, narrowed := true }
def FnMulSoundUptoSaid : Prop := fnMulSoundUptoRow.holds Try.pinned (OpenSpec.upto fnMulSoundSpec)

/-- 'laws.FnMulSound64', WHERE WHAT IT READS IS OF BULK AT MOST 1048576: true; the input reads as it did. -/
def fnMulSound64UptoRow : OpenClaim := { program := "ytcnhhgglgfaheaa", sum := "392afc9b0d7fa9b6696b593aadc87d5c5d23dda2038bdcbcba0e30219afe8399", func := "loop.example/pub-g01457/laws.FnMulSound64", spec := "fnMulSound64", apart := false, narrowed := true }
def FnMulSound64UptoSaid : Prop := fnMulSound64UptoRow.holds Try.pinned (OpenSpec.upto fnMulSound64Spec)

/-- 'laws.FnMulSound8', WHERE WHAT IT READS IS OF BULK AT MOST 1048576: true; the input reads as it did. -/
def fnMulSound8UptoRow : OpenClaim := { program := "ytcnhhgglgfaheaa", sum := "392afc9b0d7fa9b6696b593aadc87d5c5d23dda2038bdcbcba0e30219afe8399", func := "loop.example/pub-g01457/laws.FnMulSound8", spec := "fnMulSound8", apart := false, narrowed := true }
def FnMulSound8UptoSaid : Prop := fnMulSound8UptoRow.holds Try.pinned (OpenSpec.upto fnMulSound8Spec)

/-- 'laws.FnMulAddSound', WHERE WHAT IT READS IS OF BULK AT MOST 1048576: true; the input reads as it did. -/
def fnMulAddSoundUptoRow : OpenClaim := { program := "ytcnhhgglgfaheaa", sum := "392afc9b0d7fa9b6696b593aadc87d5c5d23dda2038bdcbcba0e30219afe8399", func := "loop.example/pub-g01457/laws.FnMulAddSound", spec := "fnMulAddSound", apart := false, narrowed := true }
def FnMulAddSoundUptoSaid : Prop := fnMulAddSoundUptoRow.holds Try.pinned (OpenSpec.upto fnMulAddSoundSpec)

/-- 'laws.FnSubGrows', WHERE WHAT IT READS IS OF BULK AT MOST 1048576: true; the input reads as it did. -/
def fnSubGrowsUptoRow : OpenClaim := { program := "ytcnhhgglgfaheaa", sum := "392afc9b0d7fa9b6696b593aadc87d5c5d23dda2038bdcbcba0e30219afe8399", func := "loop.example/pub-g01457/laws.FnSubGrows", spec := "fnSubGrows", apart := false, narrowed := true }
def FnSubGrowsUptoSaid : Prop := fnSubGrowsUptoRow.holds Try.pinned (OpenSpec.upto fnSubGrowsSpec)

/-- 'laws.FnSubOne', WHERE WHAT IT READS IS OF BULK AT MOST 1048576: true; the input reads as it did. -/
def fnSubOneUptoRow : OpenClaim := { program := "ytcnhhgglgfaheaa", sum := "392afc9b0d7fa9b6696b593aadc87d5c5d23dda2038bdcbcba0e30219afe8399", func := "loop.example/pub-g01457/laws.FnSubOne", spec := "fnSubOne", apart := false, narrowed := true }
def FnSubOneUptoSaid : Prop := fnSubOneUptoRow.holds Try.pinned (OpenSpec.upto fnSubOneSpec)

/-- 'laws.FnSubSound', WHERE WHAT IT READS IS OF BULK AT MOST 1048576: true; the input reads as it did. -/
def fnSubSoundUptoRow : OpenClaim := { program := "ytcnhhgglgfaheaa", sum := "392afc9b0d7fa9b6696b593aadc87d5c5d23dda2038bdcbcba0e30219afe8399", func := "loop.example/pub-g01457/laws.FnSubSound", spec := "fnSubSound", apart := false, narrowed := true }
def FnSubSoundUptoSaid : Prop := fnSubSoundUptoRow.holds Try.pinned (OpenSpec.upto fnSubSoundSpec)

/-- 'laws.FnSubSound64', WHERE WHAT IT READS IS OF BULK AT MOST 1048576: true; the input reads as it did. -/
def fnSubSound64UptoRow : OpenClaim := { program := "ytcnhhgglgfaheaa", sum := "392afc9b0d7fa9b6696b593aadc87d5c5d23dda2038bdcbcba0e30219afe8399", func := "loop.example/pub-g01457/laws.FnSubSound64", spec := "fnSubSound64", apart := false, narrowed := true }
def FnSubSound64UptoSaid : Prop := fnSubSound64UptoRow.holds Try.pinned (OpenSpec.upto fnSubSound64Spec)

/-- 'laws.FnSubSound8', WHERE WHAT IT READS IS OF BULK AT MOST 1048576: true; the input reads as it did. -/
def fnSubSound8UptoRow : OpenClaim := { program := "ytcnhhgglgfaheaa", sum := "392afc9b0d7fa9b6696b593aadc87d5c5d23dda2038bdcbcba0e30219afe8399", func := "loop.example/pub-g01457/laws.FnSubSound8", spec := "fnSubSound8", apart := false, narrowed := true }
def FnSubSound8UptoSaid : Prop := fnSubSound8UptoRow.holds Try.pinned (OpenSpec.upto fnSubSound8Spec)

/-- 'laws.FnSubTightSigned', WHERE WHAT IT READS IS OF BULK AT MOST 1048576: true; the input reads as it did. -/
def fnSubTightSignedUptoRow : OpenClaim := { program := "ytcnhhgglgfaheaa", sum := "392afc9b0d7fa9b6696b593aadc87d5c5d23dda2038bdcbcba0e30219afe8399", func := "loop.example/pub-g01457/laws.FnSubTightSigned", spec := "fnSubTightSigned", apart := false, narrowed := true }
def FnSubTightSignedUptoSaid : Prop := fnSubTightSignedUptoRow.holds Try.pinned (OpenSpec.upto fnSubTightSignedSpec)

/-- 'laws.FnSubTightUnsigned', WHERE WHAT IT READS IS OF BULK AT MOST 1048576: true; the input reads as it did. -/
def fnSubTightUnsignedUptoRow : OpenClaim := { program := "ytcnhhgglgfaheaa", sum := "392afc9b0d7fa9b6696b593aadc87d5c5d23dda2038bdcbcba0e30219afe8399", func := "loop.example/pub-g01457/laws.FnSubTightUnsigned", spec := "fnSubTightUnsigned", apart := false, narrowed := true }
def FnSubTightUnsignedUptoSaid : Prop := fnSubTightUnsignedUptoRow.holds Try.pinned (OpenSpec.upto fnSubTightUnsignedSpec)

end Rows
end Go.Proofs.Ytcnhhgglgfaheaa
