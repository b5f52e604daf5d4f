/-
  DERIVED. GIVEN WITH THE SEED: THE CARDS: each row of YtjfpjcaidjblnaaDoorRows.lean that lists a variable, with what it lists TIED to the program's text (the seventh form; the later family's looks); each row that meets fmt, with fmt's text TOLD by the authors' own Lean function (tested against real Go, not proved from fmt's source: count such statements apart). THE CARD IS WHAT COUNTS. Prove the row's statement (the work); the ties are given (YtjfpjcaidjblnaaDoorTie.lean); close each card by the builder's one call (the guide's Derived/Test/ToyasCard.lean, 'card_holds'). Laid BY PROGRAM, IN A SANDBOX (cutbox-door.mjs). By AI agents, Wed Nov 11 2026. No macro, syntax, notation, axiom, sorry.
-/
import Derived.Test.YtjfpjcaidjblnaaDoorRows
import GoSem.ClaimSeven
namespace Go.Proofs.YtjfpjcaidjblnaaDoor
namespace Rows

/-- THE TIED CARD OF 'laws.FnCountsAgree'. -/
def fnCountsAgreeCard : Claim7 := { stood := { row := fnCountsAgreeRow, standIns := [], harness := (true, "965885b3a7e7dfe514cd92ce2e6e9c3c62a8898097ad111303c8ee8f90e29255"), looks := false }, kinds := [], alts := [], laidByText := true, laidKinds := [.data], laidTests := true, laidLooks := .later }
def FnCountsAgreeCardSaid : Prop := Claim7.holds Tryd.pinned (.plain (OpenSpec.ofChange fnCountsAgreeSpec)) fnCountsAgreeCard

/-- THE TIED CARD OF 'laws.FnCountsBounds'. -/
def fnCountsBoundsCard : Claim7 := { stood := { row := fnCountsBoundsRow, standIns := [], harness := (true, "965885b3a7e7dfe514cd92ce2e6e9c3c62a8898097ad111303c8ee8f90e29255"), looks := false }, kinds := [], alts := [], laidByText := true, laidKinds := [.data], laidTests := true, laidLooks := .later }
def FnCountsBoundsCardSaid : Prop := Claim7.holds Tryd.pinned (.plain (OpenSpec.ofChange fnCountsBoundsSpec)) fnCountsBoundsCard

/-- THE TIED CARD OF 'laws.FnCountsOne'. -/
def fnCountsOneCard : Claim7 := { stood := { row := fnCountsOneRow, standIns := [], harness := (true, "965885b3a7e7dfe514cd92ce2e6e9c3c62a8898097ad111303c8ee8f90e29255"), looks := false }, kinds := [], alts := [], laidByText := true, laidKinds := [.data], laidTests := true, laidLooks := .later }
def FnCountsOneCardSaid : Prop := Claim7.holds Tryd.pinned (.plain (OpenSpec.ofChange fnCountsOneSpec)) fnCountsOneCard

/-- THE TIED CARD OF 'laws.FnCtzSound'. -/
def fnCtzSoundCard : Claim7 := { stood := { row := fnCtzSoundRow, standIns := [], harness := (true, "965885b3a7e7dfe514cd92ce2e6e9c3c62a8898097ad111303c8ee8f90e29255"), looks := false }, kinds := [], alts := [], laidByText := true, laidKinds := [.data], laidTests := true, laidLooks := .later }
def FnCtzSoundCardSaid : Prop := Claim7.holds Tryd.pinned (.plain (OpenSpec.ofChange fnCtzSoundSpec)) fnCtzSoundCard

/-- THE TIED CARD OF 'laws.FnCtzSound64'. -/
def fnCtzSound64Card : Claim7 := { stood := { row := fnCtzSound64Row, standIns := [], harness := (true, "965885b3a7e7dfe514cd92ce2e6e9c3c62a8898097ad111303c8ee8f90e29255"), looks := false }, kinds := [], alts := [], laidByText := true, laidKinds := [.data], laidTests := true, laidLooks := .later }
def FnCtzSound64CardSaid : Prop := Claim7.holds Tryd.pinned (.plain (OpenSpec.ofChange fnCtzSound64Spec)) fnCtzSound64Card

/-- THE SECOND FORM's CARD OF 'laws.FnCountsAgree'. -/
def fnCountsAgreeUptoCard : Claim7 := { stood := { row := fnCountsAgreeUptoRow, standIns := [], harness := (true, "965885b3a7e7dfe514cd92ce2e6e9c3c62a8898097ad111303c8ee8f90e29255"), looks := false }, kinds := [], alts := [], laidByText := true, laidKinds := [.data], laidTests := true, laidLooks := .later }
def FnCountsAgreeUptoCardSaid : Prop := Claim7.holds Tryd.pinned (.plain (OpenSpec.upto fnCountsAgreeSpec)) fnCountsAgreeUptoCard

/-- THE SECOND FORM's CARD OF 'laws.FnCountsBounds'. -/
def fnCountsBoundsUptoCard : Claim7 := { stood := { row := fnCountsBoundsUptoRow, standIns := [], harness := (true, "965885b3a7e7dfe514cd92ce2e6e9c3c62a8898097ad111303c8ee8f90e29255"), looks := false }, kinds := [], alts := [], laidByText := true, laidKinds := [.data], laidTests := true, laidLooks := .later }
def FnCountsBoundsUptoCardSaid : Prop := Claim7.holds Tryd.pinned (.plain (OpenSpec.upto fnCountsBoundsSpec)) fnCountsBoundsUptoCard

/-- THE SECOND FORM's CARD OF 'laws.FnCountsOne'. -/
def fnCountsOneUptoCard : Claim7 := { stood := { row := fnCountsOneUptoRow, standIns := [], harness := (true, "965885b3a7e7dfe514cd92ce2e6e9c3c62a8898097ad111303c8ee8f90e29255"), looks := false }, kinds := [], alts := [], laidByText := true, laidKinds := [.data], laidTests := true, laidLooks := .later }
def FnCountsOneUptoCardSaid : Prop := Claim7.holds Tryd.pinned (.plain (OpenSpec.upto fnCountsOneSpec)) fnCountsOneUptoCard

/-- THE SECOND FORM's CARD OF 'laws.FnCtzSound'. -/
def fnCtzSoundUptoCard : Claim7 := { stood := { row := fnCtzSoundUptoRow, standIns := [], harness := (true, "965885b3a7e7dfe514cd92ce2e6e9c3c62a8898097ad111303c8ee8f90e29255"), looks := false }, kinds := [], alts := [], laidByText := true, laidKinds := [.data], laidTests := true, laidLooks := .later }
def FnCtzSoundUptoCardSaid : Prop := Claim7.holds Tryd.pinned (.plain (OpenSpec.upto fnCtzSoundSpec)) fnCtzSoundUptoCard

/-- THE SECOND FORM's CARD OF 'laws.FnCtzSound64'. -/
def fnCtzSound64UptoCard : Claim7 := { stood := { row := fnCtzSound64UptoRow, standIns := [], harness := (true, "965885b3a7e7dfe514cd92ce2e6e9c3c62a8898097ad111303c8ee8f90e29255"), looks := false }, kinds := [], alts := [], laidByText := true, laidKinds := [.data], laidTests := true, laidLooks := .later }
def FnCtzSound64UptoCardSaid : Prop := Claim7.holds Tryd.pinned (.plain (OpenSpec.upto fnCtzSound64Spec)) fnCtzSound64UptoCard
end Rows
end Go.Proofs.YtjfpjcaidjblnaaDoor
