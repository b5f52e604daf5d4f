/-
  The table of math/bits, from the row's condition to what the walks ask; and the witness's heap. No condition of our own.
-/
import Derived.Test.YtjfpjcaidjblnaaDoorTz
import Derived.Lib.LaidTab
import Derived.LaidMore
import Derived.Stop.Joined
import Derived.ProofKit
namespace Go.Proofs.YtjfpjcaidjblnaaDoor
open Go.RowKit
/-- The rows' one listed variable. -/
def laid1 : List (String × DataW Unit) := [("math/bits.deBruijn64tab", Rows.laid_math_bits_deBruijn64tab)]
theorem gTab : Tryd.prog.globalNamed "math/bits.deBruijn64tab" = some 0 := by kernel_rfl
theorem tTab : (Tryd.prog.globals[0]?).map (·.type) = some 60 := by kernel_rfl
theorem cTab : Tryd.prog.cellsOf 60 = 64 := by kernel_rfl
theorem cU8 : Tryd.prog.cellsOf 5 = 1 := by kernel_rfl
def tabZ : List Int := Lib.deBruijn64tab.map fun n : Nat => (n : Int)
theorem tabZ_at : ∀ j, j < 64 → tabZ.getD j 0 = ((Lib.deBruijn64tab.getD j 0 : Nat) : Int) := by decide +kernel
theorem laid_is : (Rows.laid_math_bits_deBruijn64tab : DataW Unit) = Lib.tabData .u8 tabZ := by kernel_rfl
/-- The door's own heap meets the condition. -/
theorem door_met (os : Os) (args : Array Value) : laidMetH Tryd.prog laid1 ((World.doorLaid Tryd.prog 14 os).forCall (fun _ _ => 0) ⟨#[], args, []⟩).memory :=
  laidMetH_of_parts3 (fuel := 8) (laidMet_of_run' 8 (by kernel_rfl) (by kernel_rfl)) (by kernel_rfl) (by kernel_rfl)
theorem tab_of_laid {W : World} (h : laidMetH Tryd.prog laid1 W) : Tab W := by
  rw [MakeChecks.laidMetH_plain _ _ _ (by kernel_rfl)] at h
  unfold laid1 at h
  rw [laid_is] at h
  have ht := Lib.tabIs_of_head gTab tTab Tryd.underlying60 Tryd.underlying5 cU8 cTab h
  intro j hj
  have hc := ht.cell gTab j (by unfold tabZ; rw [List.length_map]; exact hj)
  rw [hc, tabZ_at j hj]
end Go.Proofs.YtjfpjcaidjblnaaDoor
