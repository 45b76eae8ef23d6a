/-
  DERIVED. GIVEN WITH THE SEED: THE CARDS: each row of YtjbjjphgnilhmaaGreatDoorRows.lean that lists a variable, with what it lists TIED to the program's text (the seventh form; the later family's looks); each row that meets fmt, with fmt's text TOLD by the authors' own Lean function (tested against real Go, not proved from fmt's source: count such statements apart). THE CARD IS WHAT COUNTS. Prove the row's statement (the work); the ties are given (YtjbjjphgnilhmaaGreatDoorTie.lean); close each card by the builder's one call (the guide's Derived/Test/ToyasCard.lean, 'card_holds'). Laid BY PROGRAM, IN A SANDBOX (cutbox-door.mjs). By AI agents, Wed Nov 11 2026. No macro, syntax, notation, axiom, sorry.
-/
import Derived.Test.YtjbjjphgnilhmaaGreatDoorRows
import GoSem.ClaimSeven
namespace Go.Proofs.YtjbjjphgnilhmaaGreatDoor
namespace Rows

/-- THE TIED CARD OF 'laws.FnDecodeAgain'. -/
def fnDecodeAgainCard : Claim7 := { stood := { row := fnDecodeAgainRow, standIns := [], harness := (true, "8eda3613e9ed0987b63f8d1bfebf06b501462394059a9af1473a63778740a362"), looks := true }, kinds := [], alts := [], laidByText := true, laidKinds := [.sentinel, .sentinel, .sentinel, .sentinel, .sentinel, .sentinel, .sentinel, .sentinel, .sentinel, .sentinel, .sentinel, .sentinel], laidTests := true, laidLooks := .later }
def FnDecodeAgainCardSaid : Prop := Claim7.holds Tryz.pinned (.plain (OpenSpec.ofChange fnDecodeAgainSpec)) fnDecodeAgainCard

/-- THE TIED CARD OF 'laws.FnStreamAny'. -/
def fnStreamAnyCard : Claim7 := { stood := { row := fnStreamAnyRow, standIns := [], harness := (true, "8eda3613e9ed0987b63f8d1bfebf06b501462394059a9af1473a63778740a362"), looks := true }, kinds := [], alts := [], laidByText := true, laidKinds := [.sentinel, .sentinel, .sentinel, .sentinel, .sentinel, .sentinel, .sentinel, .sentinel, .sentinel, .sentinel, .sentinel, .sentinel], laidTests := true, laidLooks := .later }
def FnStreamAnyCardSaid : Prop := Claim7.holds Tryz.pinned (.plain (OpenSpec.ofChange fnStreamAnySpec)) fnStreamAnyCard

/-- THE SECOND FORM's CARD OF 'laws.FnDecodeAgain'. -/
def fnDecodeAgainUptoCard : Claim7 := { stood := { row := fnDecodeAgainUptoRow, standIns := [], harness := (true, "8eda3613e9ed0987b63f8d1bfebf06b501462394059a9af1473a63778740a362"), looks := true }, kinds := [], alts := [], laidByText := true, laidKinds := [.sentinel, .sentinel, .sentinel, .sentinel, .sentinel, .sentinel, .sentinel, .sentinel, .sentinel, .sentinel, .sentinel, .sentinel], laidTests := true, laidLooks := .later }
def FnDecodeAgainUptoCardSaid : Prop := Claim7.holds Tryz.pinned (.plain (OpenSpec.upto fnDecodeAgainSpec)) fnDecodeAgainUptoCard

/-- THE SECOND FORM's CARD OF 'laws.FnStreamAny'. -/
def fnStreamAnyUptoCard : Claim7 := { stood := { row := fnStreamAnyUptoRow, standIns := [], harness := (true, "8eda3613e9ed0987b63f8d1bfebf06b501462394059a9af1473a63778740a362"), looks := true }, kinds := [], alts := [], laidByText := true, laidKinds := [.sentinel, .sentinel, .sentinel, .sentinel, .sentinel, .sentinel, .sentinel, .sentinel, .sentinel, .sentinel, .sentinel, .sentinel], laidTests := true, laidLooks := .later }
def FnStreamAnyUptoCardSaid : Prop := Claim7.holds Tryz.pinned (.plain (OpenSpec.upto fnStreamAnySpec)) fnStreamAnyUptoCard
end Rows
end Go.Proofs.YtjbjjphgnilhmaaGreatDoor
