/-
  DERIVED. GIVEN WITH THE SEED: THE CARDS: each row of YtpbhpplmokdkhaaDoorRows.lean that lists a variable, with what it lists TIED to the program's text (the seventh form; the later family's looks); each row that meets fmt, with fmt's text TOLD by the authors' own Lean function (tested against real Go, not proved from fmt's source: count such statements apart). THE CARD IS WHAT COUNTS. Prove the row's statement (the work); the ties are given (YtpbhpplmokdkhaaDoorTie.lean); close each card by the builder's one call (the guide's Derived/Test/ToyasCard.lean, 'card_holds'). Laid BY PROGRAM, IN A SANDBOX (cutbox-door.mjs). By AI agents, Wed Nov 11 2026. No macro, syntax, notation, axiom, sorry.
-/
import Derived.Test.YtpbhpplmokdkhaaDoorRows
import GoSem.ClaimSeven
namespace Go.Proofs.YtpbhpplmokdkhaaDoor
namespace Rows

/-- THE TIED CARD OF 'laws.FnAreaSplit'. -/
def fnAreaSplitCard : Claim7 := { stood := { row := fnAreaSplitRow, standIns := [], harness := (true, "1f7730a26318c358d74c291089d7528a3d54181ed727c90220dd49b73ceda2ba"), looks := true }, kinds := [], alts := [], laidByText := true, laidKinds := [.data], laidTests := true, laidLooks := .later }
def FnAreaSplitCardSaid : Prop := Claim7.holds Tryd.pinned (.plain (OpenSpec.ofChange fnAreaSplitSpec)) fnAreaSplitCard

/-- THE TIED CARD OF 'laws.FnHasAny'. -/
def fnHasAnyCard : Claim7 := { stood := { row := fnHasAnyRow, standIns := [], harness := (true, "1f7730a26318c358d74c291089d7528a3d54181ed727c90220dd49b73ceda2ba"), looks := true }, kinds := [], alts := [], laidByText := true, laidKinds := [.data], laidTests := true, laidLooks := .later }
def FnHasAnyCardSaid : Prop := Claim7.holds Tryd.pinned (.plain (OpenSpec.ofChange fnHasAnySpec)) fnHasAnyCard

/-- THE TIED CARD OF 'laws.FnHasMoved'. -/
def fnHasMovedCard : Claim7 := { stood := { row := fnHasMovedRow, standIns := [], harness := (true, "1f7730a26318c358d74c291089d7528a3d54181ed727c90220dd49b73ceda2ba"), looks := true }, kinds := [], alts := [], laidByText := true, laidKinds := [.data], laidTests := true, laidLooks := .later }
def FnHasMovedCardSaid : Prop := Claim7.holds Tryd.pinned (.plain (OpenSpec.ofChange fnHasMovedSpec)) fnHasMovedCard

/-- THE TIED CARD OF 'laws.FnSegmentLeast'. -/
def fnSegmentLeastCard : Claim7 := { stood := { row := fnSegmentLeastRow, standIns := [], harness := (true, "1f7730a26318c358d74c291089d7528a3d54181ed727c90220dd49b73ceda2ba"), looks := true }, kinds := [], alts := [], laidByText := true, laidKinds := [.data], laidTests := true, laidLooks := .later }
def FnSegmentLeastCardSaid : Prop := Claim7.holds Tryd.pinned (.plain (OpenSpec.ofChange fnSegmentLeastSpec)) fnSegmentLeastCard

/-- THE TIED CARD OF 'laws.FnAreaMoved'. -/
def fnAreaMovedCard : Claim7 := { stood := { row := fnAreaMovedRow, standIns := [], harness := (true, "1f7730a26318c358d74c291089d7528a3d54181ed727c90220dd49b73ceda2ba"), looks := true }, kinds := [], alts := [], laidByText := true, laidKinds := [.data], laidTests := true, laidLooks := .later }
def FnAreaMovedCardSaid : Prop := Claim7.holds Tryd.pinned (.plain (OpenSpec.ofChange fnAreaMovedSpec)) fnAreaMovedCard

/-- THE TIED CARD OF 'laws.FnCentroidAny'. -/
def fnCentroidAnyCard : Claim7 := { stood := { row := fnCentroidAnyRow, standIns := [], harness := (true, "1f7730a26318c358d74c291089d7528a3d54181ed727c90220dd49b73ceda2ba"), looks := true }, kinds := [], alts := [], laidByText := true, laidKinds := [.data], laidTests := true, laidLooks := .later }
def FnCentroidAnyCardSaid : Prop := Claim7.holds Tryd.pinned (.plain (OpenSpec.ofChange fnCentroidAnySpec)) fnCentroidAnyCard

/-- THE TIED CARD OF 'laws.FnLengthAny'. -/
def fnLengthAnyCard : Claim7 := { stood := { row := fnLengthAnyRow, standIns := [], harness := (true, "1f7730a26318c358d74c291089d7528a3d54181ed727c90220dd49b73ceda2ba"), looks := true }, kinds := [], alts := [], laidByText := true, laidKinds := [.data], laidTests := true, laidLooks := .later }
def FnLengthAnyCardSaid : Prop := Claim7.holds Tryd.pinned (.plain (OpenSpec.ofChange fnLengthAnySpec)) fnLengthAnyCard

/-- THE TIED CARD OF 'laws.FnDistanceLine'. -/
def fnDistanceLineCard : Claim7 := { stood := { row := fnDistanceLineRow, standIns := [], harness := (true, "1f7730a26318c358d74c291089d7528a3d54181ed727c90220dd49b73ceda2ba"), looks := true }, kinds := [], alts := [], laidByText := true, laidKinds := [.data], laidTests := true, laidLooks := .later }
def FnDistanceLineCardSaid : Prop := Claim7.holds Tryd.pinned (.plain (OpenSpec.ofChange fnDistanceLineSpec)) fnDistanceLineCard

/-- THE SECOND FORM's CARD OF 'laws.FnAreaSplit'. -/
def fnAreaSplitUptoCard : Claim7 := { stood := { row := fnAreaSplitUptoRow, standIns := [], harness := (true, "1f7730a26318c358d74c291089d7528a3d54181ed727c90220dd49b73ceda2ba"), looks := true }, kinds := [], alts := [], laidByText := true, laidKinds := [.data], laidTests := true, laidLooks := .later }
def FnAreaSplitUptoCardSaid : Prop := Claim7.holds Tryd.pinned (.plain (OpenSpec.upto fnAreaSplitSpec)) fnAreaSplitUptoCard

/-- THE SECOND FORM's CARD OF 'laws.FnHasAny'. -/
def fnHasAnyUptoCard : Claim7 := { stood := { row := fnHasAnyUptoRow, standIns := [], harness := (true, "1f7730a26318c358d74c291089d7528a3d54181ed727c90220dd49b73ceda2ba"), looks := true }, kinds := [], alts := [], laidByText := true, laidKinds := [.data], laidTests := true, laidLooks := .later }
def FnHasAnyUptoCardSaid : Prop := Claim7.holds Tryd.pinned (.plain (OpenSpec.upto fnHasAnySpec)) fnHasAnyUptoCard

/-- THE SECOND FORM's CARD OF 'laws.FnHasMoved'. -/
def fnHasMovedUptoCard : Claim7 := { stood := { row := fnHasMovedUptoRow, standIns := [], harness := (true, "1f7730a26318c358d74c291089d7528a3d54181ed727c90220dd49b73ceda2ba"), looks := true }, kinds := [], alts := [], laidByText := true, laidKinds := [.data], laidTests := true, laidLooks := .later }
def FnHasMovedUptoCardSaid : Prop := Claim7.holds Tryd.pinned (.plain (OpenSpec.upto fnHasMovedSpec)) fnHasMovedUptoCard

/-- THE SECOND FORM's CARD OF 'laws.FnSegmentLeast'. -/
def fnSegmentLeastUptoCard : Claim7 := { stood := { row := fnSegmentLeastUptoRow, standIns := [], harness := (true, "1f7730a26318c358d74c291089d7528a3d54181ed727c90220dd49b73ceda2ba"), looks := true }, kinds := [], alts := [], laidByText := true, laidKinds := [.data], laidTests := true, laidLooks := .later }
def FnSegmentLeastUptoCardSaid : Prop := Claim7.holds Tryd.pinned (.plain (OpenSpec.upto fnSegmentLeastSpec)) fnSegmentLeastUptoCard

/-- THE SECOND FORM's CARD OF 'laws.FnAreaMoved'. -/
def fnAreaMovedUptoCard : Claim7 := { stood := { row := fnAreaMovedUptoRow, standIns := [], harness := (true, "1f7730a26318c358d74c291089d7528a3d54181ed727c90220dd49b73ceda2ba"), looks := true }, kinds := [], alts := [], laidByText := true, laidKinds := [.data], laidTests := true, laidLooks := .later }
def FnAreaMovedUptoCardSaid : Prop := Claim7.holds Tryd.pinned (.plain (OpenSpec.upto fnAreaMovedSpec)) fnAreaMovedUptoCard

/-- THE SECOND FORM's CARD OF 'laws.FnCentroidAny'. -/
def fnCentroidAnyUptoCard : Claim7 := { stood := { row := fnCentroidAnyUptoRow, standIns := [], harness := (true, "1f7730a26318c358d74c291089d7528a3d54181ed727c90220dd49b73ceda2ba"), looks := true }, kinds := [], alts := [], laidByText := true, laidKinds := [.data], laidTests := true, laidLooks := .later }
def FnCentroidAnyUptoCardSaid : Prop := Claim7.holds Tryd.pinned (.plain (OpenSpec.upto fnCentroidAnySpec)) fnCentroidAnyUptoCard

/-- THE SECOND FORM's CARD OF 'laws.FnLengthAny'. -/
def fnLengthAnyUptoCard : Claim7 := { stood := { row := fnLengthAnyUptoRow, standIns := [], harness := (true, "1f7730a26318c358d74c291089d7528a3d54181ed727c90220dd49b73ceda2ba"), looks := true }, kinds := [], alts := [], laidByText := true, laidKinds := [.data], laidTests := true, laidLooks := .later }
def FnLengthAnyUptoCardSaid : Prop := Claim7.holds Tryd.pinned (.plain (OpenSpec.upto fnLengthAnySpec)) fnLengthAnyUptoCard

/-- THE SECOND FORM's CARD OF 'laws.FnDistanceLine'. -/
def fnDistanceLineUptoCard : Claim7 := { stood := { row := fnDistanceLineUptoRow, standIns := [], harness := (true, "1f7730a26318c358d74c291089d7528a3d54181ed727c90220dd49b73ceda2ba"), looks := true }, kinds := [], alts := [], laidByText := true, laidKinds := [.data], laidTests := true, laidLooks := .later }
def FnDistanceLineUptoCardSaid : Prop := Claim7.holds Tryd.pinned (.plain (OpenSpec.upto fnDistanceLineSpec)) fnDistanceLineUptoCard
end Rows
end Go.Proofs.YtpbhpplmokdkhaaDoor
