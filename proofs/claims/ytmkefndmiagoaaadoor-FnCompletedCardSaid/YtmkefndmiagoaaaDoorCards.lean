/-
  DERIVED. GIVEN WITH THE SEED: THE CARDS: each row of YtmkefndmiagoaaaDoorRows.lean that lists a variable, with what it lists TIED to the program's text (the seventh form; the later family's looks); each row that meets fmt, with fmt's text TOLD by the authors' own Lean function (tested against real Go, not proved from fmt's source: count such statements apart). THE CARD IS WHAT COUNTS. Prove the row's statement (the work); the ties are given (YtmkefndmiagoaaaDoorTie.lean); close each card by the builder's one call (the guide's Derived/Test/ToyasCard.lean, 'card_holds'). Laid BY PROGRAM, IN A SANDBOX (cutbox-door.mjs). By AI agents, Wed Nov 11 2026. No macro, syntax, notation, axiom, sorry.
-/
import Derived.Test.YtmkefndmiagoaaaDoorRows
import GoSem.ClaimSeven
namespace Go.Proofs.YtmkefndmiagoaaaDoor
namespace Rows

/-- THE TIED CARD OF 'laws.FnCompleted'. -/
def fnCompletedCard : Claim7 := { stood := { row := fnCompletedRow, standIns := [], harness := (true, "5056ab66abd56dec7e7a3d5c9f532a73a78e3283d5f578ebfe607e4cb88a79f4"), looks := true }, kinds := [], alts := [], laidByText := true, laidKinds := [.listed, .wider], laidTests := true, laidLooks := .later }
def FnCompletedCardSaid : Prop := Claim7.holds Tryd.pinned (.plain (OpenSpec.ofChange fnCompletedSpec)) fnCompletedCard

/-- THE TIED CARD OF 'laws.FnOffersCommon'. -/
def fnOffersCommonCard : Claim7 := { stood := { row := fnOffersCommonRow, standIns := [], harness := (true, "5056ab66abd56dec7e7a3d5c9f532a73a78e3283d5f578ebfe607e4cb88a79f4"), looks := true }, kinds := [], alts := [], laidByText := true, laidKinds := [.listed, .wider], laidTests := true, laidLooks := .later }
def FnOffersCommonCardSaid : Prop := Claim7.holds Tryd.pinned (.plain (OpenSpec.ofChange fnOffersCommonSpec)) fnOffersCommonCard

/-- THE TIED CARD OF 'laws.FnTreeOf'. -/
def fnTreeOfCard : Claim7 := { stood := { row := fnTreeOfRow, standIns := [], harness := (true, "5056ab66abd56dec7e7a3d5c9f532a73a78e3283d5f578ebfe607e4cb88a79f4"), looks := true }, kinds := [], alts := [], laidByText := true, laidKinds := [.listed, .sentinel, .wider], laidTests := true, laidLooks := .later }
def FnTreeOfCardSaid : Prop := Claim7.holds Tryd.pinned (.plain (OpenSpec.ofChange fnTreeOfSpec)) fnTreeOfCard

/-- THE SECOND FORM's CARD OF 'laws.FnCompleted'. -/
def fnCompletedUptoCard : Claim7 := { stood := { row := fnCompletedUptoRow, standIns := [], harness := (true, "5056ab66abd56dec7e7a3d5c9f532a73a78e3283d5f578ebfe607e4cb88a79f4"), looks := true }, kinds := [], alts := [], laidByText := true, laidKinds := [.listed, .wider], laidTests := true, laidLooks := .later }
def FnCompletedUptoCardSaid : Prop := Claim7.holds Tryd.pinned (.plain (OpenSpec.upto fnCompletedSpec)) fnCompletedUptoCard

/-- THE SECOND FORM's CARD OF 'laws.FnOffersCommon'. -/
def fnOffersCommonUptoCard : Claim7 := { stood := { row := fnOffersCommonUptoRow, standIns := [], harness := (true, "5056ab66abd56dec7e7a3d5c9f532a73a78e3283d5f578ebfe607e4cb88a79f4"), looks := true }, kinds := [], alts := [], laidByText := true, laidKinds := [.listed, .wider], laidTests := true, laidLooks := .later }
def FnOffersCommonUptoCardSaid : Prop := Claim7.holds Tryd.pinned (.plain (OpenSpec.upto fnOffersCommonSpec)) fnOffersCommonUptoCard

/-- THE SECOND FORM's CARD OF 'laws.FnTreeOf'. -/
def fnTreeOfUptoCard : Claim7 := { stood := { row := fnTreeOfUptoRow, standIns := [], harness := (true, "5056ab66abd56dec7e7a3d5c9f532a73a78e3283d5f578ebfe607e4cb88a79f4"), looks := true }, kinds := [], alts := [], laidByText := true, laidKinds := [.listed, .sentinel, .wider], laidTests := true, laidLooks := .later }
def FnTreeOfUptoCardSaid : Prop := Claim7.holds Tryd.pinned (.plain (OpenSpec.upto fnTreeOfSpec)) fnTreeOfUptoCard
end Rows
end Go.Proofs.YtmkefndmiagoaaaDoor
