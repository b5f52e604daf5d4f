/-
  NARROWER THAN 'FOR EVERY INPUT', by the rows' own cells (each row's printed sentence says how): FnCountsAgree: laid · FnCountsBounds: laid · FnCountsOne: laid · FnCtzSound: laid · FnCtzSound64: laid.
  DERIVED. THE GIVEN ROWS OF THIS SEAT. 5 by the template 'for every input the law returns true; each argument reads behind the call as it read before'; 0 by the template 'total and deterministic' (their statements: YtjfpjcaidjblnaaDoorTotals.lean).
  GIVEN WITH THE SEED: the statements are not yours to turn. If you find one false, say at which input.
  Laid BY PROGRAM, IN A SANDBOX (cutbox-rows.mjs): the forced cells as the released guide's own fill.sh prints them over the translation 690b17ff8cb2f577… (all of the seat's roots in one cut). By AI agents, Wed Nov 11 2026. No macro, syntax, notation, axiom, sorry.
-/
import Derived.Test.YtjfpjcaidjblnaaDoorChecked
import GoSem.Claim
import GoSem.ClaimJoined
import GoSem.ClaimMapViews
import Derived.JoinedTies
import Derived.KernelRfl
namespace Go.Proofs.YtjfpjcaidjblnaaDoor
/- THE CELL 'sum', in the pinned program and in every row, IS THE sha256 OF THE DUMP (.gsa) THAT YtjfpjcaidjblnaaDoorProg.lean LOADS. Nothing in Lean hashes anything: it is a label: what it is worth is what the hold of that sum in a sandbox is worth. -/
noncomputable def Tryd.pinned : Pinned := { name := "ytjfpjcaidjblnaadoor", sum := "690b17ff8cb2f577d840a72fff81292c5e702439d66e421b47090f9206d83a38", checked := Tryd.checked }
namespace Rows
def none {H : Type} : Left H := { results := [], args := [] }

/- WHAT THE LISTED PACKAGE-LEVEL VARIABLES READ AS WHEN THE CALL BEGINS. Each datum BY PROGRAM (the guide's laid-datum.mjs) off the statement by which the dump's own 'gosem.cut.vars' lays the variable. In a bare row this is a premise. The card (YtjfpjcaidjblnaaDoorCards.lean) ties it to the program's text. -/
def laid_math_bits_deBruijn64tab {H : Type} : DataW H := .agg [.lit (.int .u8 0), .lit (.int .u8 1), .lit (.int .u8 56), .lit (.int .u8 2), .lit (.int .u8 57), .lit (.int .u8 49), .lit (.int .u8 28), .lit (.int .u8 3), .lit (.int .u8 61), .lit (.int .u8 58), .lit (.int .u8 42), .lit (.int .u8 50), .lit (.int .u8 38), .lit (.int .u8 29), .lit (.int .u8 17), .lit (.int .u8 4), .lit (.int .u8 62), .lit (.int .u8 47), .lit (.int .u8 59), .lit (.int .u8 36), .lit (.int .u8 45), .lit (.int .u8 43), .lit (.int .u8 51), .lit (.int .u8 22), .lit (.int .u8 53), .lit (.int .u8 39), .lit (.int .u8 33), .lit (.int .u8 30), .lit (.int .u8 24), .lit (.int .u8 18), .lit (.int .u8 12), .lit (.int .u8 5), .lit (.int .u8 63), .lit (.int .u8 55), .lit (.int .u8 48), .lit (.int .u8 27), .lit (.int .u8 60), .lit (.int .u8 41), .lit (.int .u8 37), .lit (.int .u8 16), .lit (.int .u8 46), .lit (.int .u8 35), .lit (.int .u8 44), .lit (.int .u8 21), .lit (.int .u8 52), .lit (.int .u8 32), .lit (.int .u8 23), .lit (.int .u8 11), .lit (.int .u8 54), .lit (.int .u8 26), .lit (.int .u8 40), .lit (.int .u8 15), .lit (.int .u8 34), .lit (.int .u8 20), .lit (.int .u8 31), .lit (.int .u8 10), .lit (.int .u8 25), .lit (.int .u8 14), .lit (.int .u8 19), .lit (.int .u8 9), .lit (.int .u8 13), .lit (.int .u8 8), .lit (.int .u8 7), .lit (.int .u8 6)]

/-- 'laws.FnCountsAgree': WHATEVER THE INPUT: true; the input reads as it did. -/
def fnCountsAgreeSpec : ChangeSpec := { name := "fnCountsAgree", fn := fun _ => fun
  | [d1, d2, d3] => { results := [.lit (.bool true)], args := [d1, d2, d3] }
  | _ => none }
def fnCountsAgreeRow : OpenClaim := { program := "ytjfpjcaidjblnaadoor", sum := "690b17ff8cb2f577d840a72fff81292c5e702439d66e421b47090f9206d83a38", func := "loop.example/pub-g01457/laws.FnCountsAgree", spec := "fnCountsAgree", named := ["math/bits.deBruijn64tab"], apart := false, laid := [("math/bits.deBruijn64tab", laid_math_bits_deBruijn64tab)] }
def FnCountsAgreeSaid : Prop := fnCountsAgreeRow.holds Tryd.pinned (OpenSpec.ofChange fnCountsAgreeSpec)

/-- ITS FALSE NEIGHBOUR: 'it returns false'. Refute it at one input. -/
def fnCountsAgreeWrong : ChangeSpec := { name := "fnCountsAgree", fn := fun _ => fun
  | [d1, d2, d3] => { results := [.lit (.bool false)], args := [d1, d2, d3] }
  | _ => none }
def FnCountsAgreeWrongFalsely : Prop := fnCountsAgreeRow.holds Tryd.pinned (OpenSpec.ofChange fnCountsAgreeWrong)

/-- 'laws.FnCountsBounds': WHATEVER THE INPUT: true; the input reads as it did. -/
def fnCountsBoundsSpec : ChangeSpec := { name := "fnCountsBounds", fn := fun _ => fun
  | [d1, d2, d3] => { results := [.lit (.bool true)], args := [d1, d2, d3] }
  | _ => none }
def fnCountsBoundsRow : OpenClaim := { program := "ytjfpjcaidjblnaadoor", sum := "690b17ff8cb2f577d840a72fff81292c5e702439d66e421b47090f9206d83a38", func := "loop.example/pub-g01457/laws.FnCountsBounds", spec := "fnCountsBounds", named := ["math/bits.deBruijn64tab"], apart := false, laid := [("math/bits.deBruijn64tab", laid_math_bits_deBruijn64tab)] }
def FnCountsBoundsSaid : Prop := fnCountsBoundsRow.holds Tryd.pinned (OpenSpec.ofChange fnCountsBoundsSpec)

/-- ITS FALSE NEIGHBOUR: 'it returns false'. Refute it at one input. -/
def fnCountsBoundsWrong : ChangeSpec := { name := "fnCountsBounds", fn := fun _ => fun
  | [d1, d2, d3] => { results := [.lit (.bool false)], args := [d1, d2, d3] }
  | _ => none }
def FnCountsBoundsWrongFalsely : Prop := fnCountsBoundsRow.holds Tryd.pinned (OpenSpec.ofChange fnCountsBoundsWrong)

/-- 'laws.FnCountsOne': WHATEVER THE INPUT: true; the input reads as it did. -/
def fnCountsOneSpec : ChangeSpec := { name := "fnCountsOne", fn := fun _ => fun
  | [d1, d2] => { results := [.lit (.bool true)], args := [d1, d2] }
  | _ => none }
def fnCountsOneRow : OpenClaim := { program := "ytjfpjcaidjblnaadoor", sum := "690b17ff8cb2f577d840a72fff81292c5e702439d66e421b47090f9206d83a38", func := "loop.example/pub-g01457/laws.FnCountsOne", spec := "fnCountsOne", named := ["math/bits.deBruijn64tab"], apart := false, laid := [("math/bits.deBruijn64tab", laid_math_bits_deBruijn64tab)] }
def FnCountsOneSaid : Prop := fnCountsOneRow.holds Tryd.pinned (OpenSpec.ofChange fnCountsOneSpec)

/-- ITS FALSE NEIGHBOUR: 'it returns false'. Refute it at one input. -/
def fnCountsOneWrong : ChangeSpec := { name := "fnCountsOne", fn := fun _ => fun
  | [d1, d2] => { results := [.lit (.bool false)], args := [d1, d2] }
  | _ => none }
def FnCountsOneWrongFalsely : Prop := fnCountsOneRow.holds Tryd.pinned (OpenSpec.ofChange fnCountsOneWrong)

/-- 'laws.FnCtzSound': WHATEVER THE INPUT: true; the input reads as it did. -/
def fnCtzSoundSpec : ChangeSpec := { name := "fnCtzSound", fn := fun _ => fun
  | [d1, d2, d3] => { results := [.lit (.bool true)], args := [d1, d2, d3] }
  | _ => none }
def fnCtzSoundRow : OpenClaim := { program := "ytjfpjcaidjblnaadoor", sum := "690b17ff8cb2f577d840a72fff81292c5e702439d66e421b47090f9206d83a38", func := "loop.example/pub-g01457/laws.FnCtzSound", spec := "fnCtzSound", named := ["math/bits.deBruijn64tab"], apart := false, laid := [("math/bits.deBruijn64tab", laid_math_bits_deBruijn64tab)] }
def FnCtzSoundSaid : Prop := fnCtzSoundRow.holds Tryd.pinned (OpenSpec.ofChange fnCtzSoundSpec)

/-- ITS FALSE NEIGHBOUR: 'it returns false'. Refute it at one input. -/
def fnCtzSoundWrong : ChangeSpec := { name := "fnCtzSound", fn := fun _ => fun
  | [d1, d2, d3] => { results := [.lit (.bool false)], args := [d1, d2, d3] }
  | _ => none }
def FnCtzSoundWrongFalsely : Prop := fnCtzSoundRow.holds Tryd.pinned (OpenSpec.ofChange fnCtzSoundWrong)

/-- 'laws.FnCtzSound64': WHATEVER THE INPUT: true; the input reads as it did. -/
def fnCtzSound64Spec : ChangeSpec := { name := "fnCtzSound64", fn := fun _ => fun
  | [d1, d2] => { results := [.lit (.bool true)], args := [d1, d2] }
  | _ => none }
def fnCtzSound64Row : OpenClaim := { program := "ytjfpjcaidjblnaadoor", sum := "690b17ff8cb2f577d840a72fff81292c5e702439d66e421b47090f9206d83a38", func := "loop.example/pub-g01457/laws.FnCtzSound64", spec := "fnCtzSound64", named := ["math/bits.deBruijn64tab"], apart := false, laid := [("math/bits.deBruijn64tab", laid_math_bits_deBruijn64tab)] }
def FnCtzSound64Said : Prop := fnCtzSound64Row.holds Tryd.pinned (OpenSpec.ofChange fnCtzSound64Spec)

/-- ITS FALSE NEIGHBOUR: 'it returns false'. Refute it at one input. -/
def fnCtzSound64Wrong : ChangeSpec := { name := "fnCtzSound64", fn := fun _ => fun
  | [d1, d2] => { results := [.lit (.bool false)], args := [d1, d2] }
  | _ => none }
def FnCtzSound64WrongFalsely : Prop := fnCtzSound64Row.holds Tryd.pinned (OpenSpec.ofChange fnCtzSound64Wrong)

/- THE SECOND FORM. 'bulk': how many values and letters a reading holds, each counted each time it is reached (what is shared counts as often as it is met; a slice's spare places count too). A statement '..UptoSaid' is the law's where the arguments, and the package variables that the reading takes, are together of bulk at most 1048576: NARROWER than '..Said'. Prove '..Said' where nothing that the law and all that it calls make is longer than what came in: it says more and counts as full. Else prove '..UptoSaid'. A law counts once. -/
mutual
def uptoBulk {H : Type} : DataW H → Nat
  | .lit (.string bytes) => bytes.length + 1
  | .lit _ => 1
  | .nil => 1
  | .ptr d => uptoBulk d + 1
  | .slice elems spare => uptoBulkAll elems + uptoBulkAll spare + 1
  | .agg parts => uptoBulkAll parts + 1
  | .iface _ d => uptoBulk d + 1
  | .map entries => uptoBulkEntries entries + 1
  | .held _ => 1
def uptoBulkAll {H : Type} : List (DataW H) → Nat
  | [] => 0
  | d :: r => uptoBulk d + uptoBulkAll r
def uptoBulkEntries {H : Type} : List (Lit × DataW H) → Nat
  | [] => 0
  | x :: r => uptoBulkEntry x + uptoBulkEntries r
def uptoBulkEntry {H : Type} : Lit × DataW H → Nat
  | (.string bytes, d) => bytes.length + uptoBulk d + 1
  | (_, d) => uptoBulk d + 1
 end
def uptoSmall : (H : Type) → List (DataW H) → Bool := fun _ ds => decide (uptoBulkAll ds ≤ 1048576)
def OpenSpec.upto (s : _root_.Go.ChangeSpec) : _root_.Go.OpenSpec := { _root_.Go.OpenSpec.ofChange s with cond := some uptoSmall }

/-- 'laws.FnCountsAgree', WHERE WHAT IT READS IS OF BULK AT MOST 1048576: true; the input reads as it did. -/
def fnCountsAgreeUptoRow : OpenClaim := { program := "ytjfpjcaidjblnaadoor", sum := "690b17ff8cb2f577d840a72fff81292c5e702439d66e421b47090f9206d83a38", func := "loop.example/pub-g01457/laws.FnCountsAgree", spec := "fnCountsAgree", named := ["math/bits.deBruijn64tab"], apart := false, laid := [("math/bits.deBruijn64tab", laid_math_bits_deBruijn64tab)], narrowed := true }
def FnCountsAgreeUptoSaid : Prop := fnCountsAgreeUptoRow.holds Tryd.pinned (OpenSpec.upto fnCountsAgreeSpec)

/-- 'laws.FnCountsBounds', WHERE WHAT IT READS IS OF BULK AT MOST 1048576: true; the input reads as it did. -/
def fnCountsBoundsUptoRow : OpenClaim := { program := "ytjfpjcaidjblnaadoor", sum := "690b17ff8cb2f577d840a72fff81292c5e702439d66e421b47090f9206d83a38", func := "loop.example/pub-g01457/laws.FnCountsBounds", spec := "fnCountsBounds", named := ["math/bits.deBruijn64tab"], apart := false, laid := [("math/bits.deBruijn64tab", laid_math_bits_deBruijn64tab)], narrowed := true }
def FnCountsBoundsUptoSaid : Prop := fnCountsBoundsUptoRow.holds Tryd.pinned (OpenSpec.upto fnCountsBoundsSpec)

/-- 'laws.FnCountsOne', WHERE WHAT IT READS IS OF BULK AT MOST 1048576: true; the input reads as it did. -/
def fnCountsOneUptoRow : OpenClaim := { program := "ytjfpjcaidjblnaadoor", sum := "690b17ff8cb2f577d840a72fff81292c5e702439d66e421b47090f9206d83a38", func := "loop.example/pub-g01457/laws.FnCountsOne", spec := "fnCountsOne", named := ["math/bits.deBruijn64tab"], apart := false, laid := [("math/bits.deBruijn64tab", laid_math_bits_deBruijn64tab)], narrowed := true }
def FnCountsOneUptoSaid : Prop := fnCountsOneUptoRow.holds Tryd.pinned (OpenSpec.upto fnCountsOneSpec)

/-- 'laws.FnCtzSound', WHERE WHAT IT READS IS OF BULK AT MOST 1048576: true; the input reads as it did. -/
def fnCtzSoundUptoRow : OpenClaim := { program := "ytjfpjcaidjblnaadoor", sum := "690b17ff8cb2f577d840a72fff81292c5e702439d66e421b47090f9206d83a38", func := "loop.example/pub-g01457/laws.FnCtzSound", spec := "fnCtzSound", named := ["math/bits.deBruijn64tab"], apart := false, laid := [("math/bits.deBruijn64tab", laid_math_bits_deBruijn64tab)], narrowed := true }
def FnCtzSoundUptoSaid : Prop := fnCtzSoundUptoRow.holds Tryd.pinned (OpenSpec.upto fnCtzSoundSpec)

/-- 'laws.FnCtzSound64', WHERE WHAT IT READS IS OF BULK AT MOST 1048576: true; the input reads as it did. -/
def fnCtzSound64UptoRow : OpenClaim := { program := "ytjfpjcaidjblnaadoor", sum := "690b17ff8cb2f577d840a72fff81292c5e702439d66e421b47090f9206d83a38", func := "loop.example/pub-g01457/laws.FnCtzSound64", spec := "fnCtzSound64", named := ["math/bits.deBruijn64tab"], apart := false, laid := [("math/bits.deBruijn64tab", laid_math_bits_deBruijn64tab)], narrowed := true }
def FnCtzSound64UptoSaid : Prop := fnCtzSound64UptoRow.holds Tryd.pinned (OpenSpec.upto fnCtzSound64Spec)

end Rows
end Go.Proofs.YtjfpjcaidjblnaaDoor
