/-
  No cell of these rows narrows 'for every input' (looked for: loops, veiled, ifaces, maps, wideKeys, modest, calm, conditions, laid).
  DERIVED. THE GIVEN ROWS OF THIS SEAT. 7 by the template 'for every input the law returns true; each argument reads behind the call as it read before'; 0 by the template 'total and deterministic' (their statements: YtjfpjcaidjblnaaTotals.lean).
  GIVEN WITH THE SEED: the statements are not yours to turn. If you find one false, say at which input.
  Laid BY PROGRAM, IN A SANDBOX (cutbox-rows.mjs): the forced cells as the released guide's own fill.sh prints them over the translation a9f0c8702f0f2665… (all of the seat's roots in one cut). By AI agents, Wed Nov 11 2026. No macro, syntax, notation, axiom, sorry.
-/
import Derived.Test.YtjfpjcaidjblnaaChecked
import GoSem.Claim
import GoSem.ClaimJoined
import GoSem.ClaimMapViews
import Derived.JoinedTies
import Derived.KernelRfl
namespace Go.Proofs.Ytjfpjcaidjblnaa
/- THE CELL 'sum', in the pinned program and in every row, IS THE sha256 OF THE DUMP (.gsa) THAT YtjfpjcaidjblnaaProg.lean LOADS. Nothing in Lean hashes anything: it is a label: what it is worth is what the hold of that sum in a sandbox is worth. -/
noncomputable def Try.pinned : Pinned := { name := "ytjfpjcaidjblnaa", sum := "a9f0c8702f0f2665d4acc9b8053c828d1bdff54747dffb70226e01c66c18908c", checked := Try.checked }
namespace Rows
def none {H : Type} : Left H := { results := [], args := [] }

/-- 'laws.FnFixedAlike': WHATEVER THE INPUT: true; the input reads as it did. -/
def fnFixedAlikeSpec : ChangeSpec := { name := "fnFixedAlike", fn := fun _ => fun
  | [d1, d2, d3] => { results := [.lit (.bool true)], args := [d1, d2, d3] }
  | _ => none }
def fnFixedAlikeRow : OpenClaim := { program := "ytjfpjcaidjblnaa", sum := "a9f0c8702f0f2665d4acc9b8053c828d1bdff54747dffb70226e01c66c18908c", func := "loop.example/pub-g01457/laws.FnFixedAlike", spec := "fnFixedAlike", apart := false }
def FnFixedAlikeSaid : Prop := fnFixedAlikeRow.holds Try.pinned (OpenSpec.ofChange fnFixedAlikeSpec)

/-- ITS FALSE NEIGHBOUR: 'it returns false'. Refute it at one input. -/
def fnFixedAlikeWrong : ChangeSpec := { name := "fnFixedAlike", fn := fun _ => fun
  | [d1, d2, d3] => { results := [.lit (.bool false)], args := [d1, d2, d3] }
  | _ => none }
def FnFixedAlikeWrongFalsely : Prop := fnFixedAlikeRow.holds Try.pinned (OpenSpec.ofChange fnFixedAlikeWrong)

/-- 'laws.FnFixedMost': WHATEVER THE INPUT: true; the input reads as it did. -/
def fnFixedMostSpec : ChangeSpec := { name := "fnFixedMost", fn := fun _ => fun
  | [d] => { results := [.lit (.bool true)], args := [d] }
  | _ => none }
def fnFixedMostRow : OpenClaim := { program := "ytjfpjcaidjblnaa", sum := "a9f0c8702f0f2665d4acc9b8053c828d1bdff54747dffb70226e01c66c18908c", func := "loop.example/pub-g01457/laws.FnFixedMost", spec := "fnFixedMost", apart := false }
def FnFixedMostSaid : Prop := fnFixedMostRow.holds Try.pinned (OpenSpec.ofChange fnFixedMostSpec)

/-- ITS FALSE NEIGHBOUR: 'it returns false'. Refute it at one input. -/
def fnFixedMostWrong : ChangeSpec := { name := "fnFixedMost", fn := fun _ => fun
  | [d] => { results := [.lit (.bool false)], args := [d] }
  | _ => none }
def FnFixedMostWrongFalsely : Prop := fnFixedMostRow.holds Try.pinned (OpenSpec.ofChange fnFixedMostWrong)

/-- 'laws.FnFixedSound': WHATEVER THE INPUT: true; the input reads as it did. -/
def fnFixedSoundSpec : ChangeSpec := { name := "fnFixedSound", fn := fun _ => fun
  | [d1, d2] => { results := [.lit (.bool true)], args := [d1, d2] }
  | _ => none }
def fnFixedSoundRow : OpenClaim := { program := "ytjfpjcaidjblnaa", sum := "a9f0c8702f0f2665d4acc9b8053c828d1bdff54747dffb70226e01c66c18908c", func := "loop.example/pub-g01457/laws.FnFixedSound", spec := "fnFixedSound", apart := false }
def FnFixedSoundSaid : Prop := fnFixedSoundRow.holds Try.pinned (OpenSpec.ofChange fnFixedSoundSpec)

/-- ITS FALSE NEIGHBOUR: 'it returns false'. Refute it at one input. -/
def fnFixedSoundWrong : ChangeSpec := { name := "fnFixedSound", fn := fun _ => fun
  | [d1, d2] => { results := [.lit (.bool false)], args := [d1, d2] }
  | _ => none }
def FnFixedSoundWrongFalsely : Prop := fnFixedSoundRow.holds Try.pinned (OpenSpec.ofChange fnFixedSoundWrong)

/-- 'laws.FnBitlenSound': WHATEVER THE INPUT: true; the input reads as it did. -/
def fnBitlenSoundSpec : ChangeSpec := { name := "fnBitlenSound", fn := fun _ => fun
  | [d1, d2, d3] => { results := [.lit (.bool true)], args := [d1, d2, d3] }
  | _ => none }
def fnBitlenSoundRow : OpenClaim := { program := "ytjfpjcaidjblnaa", sum := "a9f0c8702f0f2665d4acc9b8053c828d1bdff54747dffb70226e01c66c18908c", func := "loop.example/pub-g01457/laws.FnBitlenSound", spec := "fnBitlenSound", apart := false }
def FnBitlenSoundSaid : Prop := fnBitlenSoundRow.holds Try.pinned (OpenSpec.ofChange fnBitlenSoundSpec)

/-- ITS FALSE NEIGHBOUR: 'it returns false'. Refute it at one input. -/
def fnBitlenSoundWrong : ChangeSpec := { name := "fnBitlenSound", fn := fun _ => fun
  | [d1, d2, d3] => { results := [.lit (.bool false)], args := [d1, d2, d3] }
  | _ => none }
def FnBitlenSoundWrongFalsely : Prop := fnBitlenSoundRow.holds Try.pinned (OpenSpec.ofChange fnBitlenSoundWrong)

/-- 'laws.FnBitlenTight': WHATEVER THE INPUT: true; the input reads as it did. -/
def fnBitlenTightSpec : ChangeSpec := { name := "fnBitlenTight", fn := fun _ => fun
  | [d1, d2, d3] => { results := [.lit (.bool true)], args := [d1, d2, d3] }
  | _ => none }
def fnBitlenTightRow : OpenClaim := { program := "ytjfpjcaidjblnaa", sum := "a9f0c8702f0f2665d4acc9b8053c828d1bdff54747dffb70226e01c66c18908c", func := "loop.example/pub-g01457/laws.FnBitlenTight", spec := "fnBitlenTight", apart := false }
def FnBitlenTightSaid : Prop := fnBitlenTightRow.holds Try.pinned (OpenSpec.ofChange fnBitlenTightSpec)

/-- ITS FALSE NEIGHBOUR: 'it returns false'. Refute it at one input. -/
def fnBitlenTightWrong : ChangeSpec := { name := "fnBitlenTight", fn := fun _ => fun
  | [d1, d2, d3] => { results := [.lit (.bool false)], args := [d1, d2, d3] }
  | _ => none }
def FnBitlenTightWrongFalsely : Prop := fnBitlenTightRow.holds Try.pinned (OpenSpec.ofChange fnBitlenTightWrong)

/-- 'laws.FnPopcountSound': WHATEVER THE INPUT: true; the input reads as it did. -/
def fnPopcountSoundSpec : ChangeSpec := { name := "fnPopcountSound", fn := fun _ => fun
  | [d1, d2, d3] => { results := [.lit (.bool true)], args := [d1, d2, d3] }
  | _ => none }
def fnPopcountSoundRow : OpenClaim := { program := "ytjfpjcaidjblnaa", sum := "a9f0c8702f0f2665d4acc9b8053c828d1bdff54747dffb70226e01c66c18908c", func := "loop.example/pub-g01457/laws.FnPopcountSound", spec := "fnPopcountSound", apart := false }
def FnPopcountSoundSaid : Prop := fnPopcountSoundRow.holds Try.pinned (OpenSpec.ofChange fnPopcountSoundSpec)

/-- ITS FALSE NEIGHBOUR: 'it returns false'. Refute it at one input. -/
def fnPopcountSoundWrong : ChangeSpec := { name := "fnPopcountSound", fn := fun _ => fun
  | [d1, d2, d3] => { results := [.lit (.bool false)], args := [d1, d2, d3] }
  | _ => none }
def FnPopcountSoundWrongFalsely : Prop := fnPopcountSoundRow.holds Try.pinned (OpenSpec.ofChange fnPopcountSoundWrong)

/-- 'laws.FnCountsGrow': WHATEVER THE INPUT: true; the input reads as it did. -/
def fnCountsGrowSpec : ChangeSpec := { name := "fnCountsGrow", fn := fun _ => fun
  | [d1, d2, d3, d4] => { results := [.lit (.bool true)], args := [d1, d2, d3, d4] }
  | _ => none }
def fnCountsGrowRow : OpenClaim := { program := "ytjfpjcaidjblnaa", sum := "a9f0c8702f0f2665d4acc9b8053c828d1bdff54747dffb70226e01c66c18908c", func := "loop.example/pub-g01457/laws.FnCountsGrow", spec := "fnCountsGrow", apart := false }
def FnCountsGrowSaid : Prop := fnCountsGrowRow.holds Try.pinned (OpenSpec.ofChange fnCountsGrowSpec)

/-- ITS FALSE NEIGHBOUR: 'it returns false'. Refute it at one input. -/
def fnCountsGrowWrong : ChangeSpec := { name := "fnCountsGrow", fn := fun _ => fun
  | [d1, d2, d3, d4] => { results := [.lit (.bool false)], args := [d1, d2, d3, d4] }
  | _ => none }
def FnCountsGrowWrongFalsely : Prop := fnCountsGrowRow.holds Try.pinned (OpenSpec.ofChange fnCountsGrowWrong)

/- THE SECOND FORM. 'bulk': how many values and letters a reading holds, each counted each time it is reached (what is shared counts as often as it is met; a slice's spare places count too). A statement '..UptoSaid' is the law's where the arguments, and the package variables that the reading takes, are together of bulk at most 1048576: NARROWER than '..Said'. Prove '..Said' where nothing that the law and all that it calls make is longer than what came in: it says more and counts as full. Else prove '..UptoSaid'. A law counts once. -/
mutual
def uptoBulk {H : Type} : DataW H → Nat
  | .lit (.string bytes) => bytes.length + 1
  | .lit _ => 1
  | .nil => 1
  | .ptr d => uptoBulk d + 1
  | .slice elems spare => uptoBulkAll elems + uptoBulkAll spare + 1
  | .agg parts => uptoBulkAll parts + 1
  | .iface _ d => uptoBulk d + 1
  | .map entries => uptoBulkEntries entries + 1
  | .held _ => 1
def uptoBulkAll {H : Type} : List (DataW H) → Nat
  | [] => 0
  | d :: r => uptoBulk d + uptoBulkAll r
def uptoBulkEntries {H : Type} : List (Lit × DataW H) → Nat
  | [] => 0
  | x :: r => uptoBulkEntry x + uptoBulkEntries r
def uptoBulkEntry {H : Type} : Lit × DataW H → Nat
  | (.string bytes, d) => bytes.length + uptoBulk d + 1
  | (_, d) => uptoBulk d + 1
 end
def uptoSmall : (H : Type) → List (DataW H) → Bool := fun _ ds => decide (uptoBulkAll ds ≤ 1048576)
def OpenSpec.upto (s : _root_.Go.ChangeSpec) : _root_.Go.OpenSpec := { _root_.Go.OpenSpec.ofChange s with cond := some uptoSmall }

/-- 'laws.FnFixedAlike', WHERE WHAT IT READS IS OF BULK AT MOST 1048576: true; the input reads as it did. -/
def fnFixedAlikeUptoRow : OpenClaim := { program := "ytjfpjcaidjblnaa", sum := "a9f0c8702f0f2665d4acc9b8053c828d1bdff54747dffb70226e01c66c18908c", func := "loop.example/pub-g01457/laws.FnFixedAlike", spec := "fnFixedAlike", apart := false, narrowed := true }
def FnFixedAlikeUptoSaid : Prop := fnFixedAlikeUptoRow.holds Try.pinned (OpenSpec.upto fnFixedAlikeSpec)

/-- 'laws.FnFixedMost', WHERE WHAT IT READS IS OF BULK AT MOST 1048576: true; the input reads as it did. -/
def fnFixedMostUptoRow : OpenClaim := { program := "ytjfpjcaidjblnaa", sum := "a9f0c8702f0f2665d4acc9b8053c828d1bdff54747dffb70226e01c66c18908c", func := "loop.example/pub-g01457/laws.FnFixedMost", spec := "fnFixedMost", apart := false, narrowed := true }
def FnFixedMostUptoSaid : Prop := fnFixedMostUptoRow.holds Try.pinned (OpenSpec.upto fnFixedMostSpec)

/-- 'laws.FnFixedSound', WHERE WHAT IT READS IS OF BULK AT MOST 1048576: true; the input reads as it did. -/
def fnFixedSoundUptoRow : OpenClaim := { program := "ytjfpjcaidjblnaa", sum := "a9f0c8702f0f2665d4acc9b8053c828d1bdff54747dffb70226e01c66c18908c", func := "loop.example/pub-g01457/laws.FnFixedSound", spec := "fnFixedSound", apart := false, narrowed := true }
def FnFixedSoundUptoSaid : Prop := fnFixedSoundUptoRow.holds Try.pinned (OpenSpec.upto fnFixedSoundSpec)

/-- 'laws.FnBitlenSound', WHERE WHAT IT READS IS OF BULK AT MOST 1048576: true; the input reads as it did. -/
def fnBitlenSoundUptoRow : OpenClaim := { program := "ytjfpjcaidjblnaa", sum := "a9f0c8702f0f2665d4acc9b8053c828d1bdff54747dffb70226e01c66c18908c", func := "loop.example/pub-g01457/laws.FnBitlenSound", spec := "fnBitlenSound", apart := false, narrowed := true }
def FnBitlenSoundUptoSaid : Prop := fnBitlenSoundUptoRow.holds Try.pinned (OpenSpec.upto fnBitlenSoundSpec)

/-- 'laws.FnBitlenTight', WHERE WHAT IT READS IS OF BULK AT MOST 1048576: true; the input reads as it did. -/
def fnBitlenTightUptoRow : OpenClaim := { program := "ytjfpjcaidjblnaa", sum := "a9f0c8702f0f2665d4acc9b8053c828d1bdff54747dffb70226e01c66c18908c", func := "loop.example/pub-g01457/laws.FnBitlenTight", spec := "fnBitlenTight", apart := false, narrowed := true }
def FnBitlenTightUptoSaid : Prop := fnBitlenTightUptoRow.holds Try.pinned (OpenSpec.upto fnBitlenTightSpec)

/-- 'laws.FnPopcountSound', WHERE WHAT IT READS IS OF BULK AT MOST 1048576: true; the input reads as it did. -/
def fnPopcountSoundUptoRow : OpenClaim := { program := "ytjfpjcaidjblnaa", sum := "a9f0c8702f0f2665d4acc9b8053c828d1bdff54747dffb70226e01c66c18908c", func := "loop.example/pub-g01457/laws.FnPopcountSound", spec := "fnPopcountSound", apart := false, narrowed := true }
def FnPopcountSoundUptoSaid : Prop := fnPopcountSoundUptoRow.holds Try.pinned (OpenSpec.upto fnPopcountSoundSpec)

/-- 'laws.FnCountsGrow', WHERE WHAT IT READS IS OF BULK AT MOST 1048576: true; the input reads as it did. -/
def fnCountsGrowUptoRow : OpenClaim := { program := "ytjfpjcaidjblnaa", sum := "a9f0c8702f0f2665d4acc9b8053c828d1bdff54747dffb70226e01c66c18908c", func := "loop.example/pub-g01457/laws.FnCountsGrow", spec := "fnCountsGrow", apart := false, narrowed := true }
def FnCountsGrowUptoSaid : Prop := fnCountsGrowUptoRow.holds Try.pinned (OpenSpec.upto fnCountsGrowSpec)

end Rows
end Go.Proofs.Ytjfpjcaidjblnaa
