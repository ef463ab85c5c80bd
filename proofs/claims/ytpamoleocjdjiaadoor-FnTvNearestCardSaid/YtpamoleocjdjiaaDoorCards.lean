/-
  DERIVED. GIVEN WITH THE SEED: THE CARDS: each row of YtpamoleocjdjiaaDoorRows.lean that lists a variable, with what it lists TIED to the program's text (the seventh form; the later family's looks); each row that meets fmt, with fmt's text TOLD by the authors' own Lean function (tested against real Go, not proved from fmt's source: count such statements apart). THE CARD IS WHAT COUNTS. Prove the row's statement (the work); the ties are given (YtpamoleocjdjiaaDoorTie.lean); close each card by the builder's one call (the guide's Derived/Test/ToyasCard.lean, 'card_holds'). Laid BY PROGRAM, IN A SANDBOX (cutbox-door.mjs). By AI agents, Wed Nov 11 2026. No macro, syntax, notation, axiom, sorry.
-/
import Derived.Test.YtpamoleocjdjiaaDoorRows
import GoSem.ClaimSeven
namespace Go.Proofs.YtpamoleocjdjiaaDoor
namespace Rows

/-- THE TIED CARD OF 'laws.FnTvBuilt'. -/
def fnTvBuiltCard : Claim7 := { stood := { row := fnTvBuiltRow, standIns := [], harness := (true, "1c0497d178c9950033bd54baa2faad88e482d081730b9464947ce230979c480d"), looks := true }, kinds := [], alts := [], laidByText := true, laidKinds := [.sentinel], laidTests := true, laidLooks := .later }
def FnTvBuiltCardSaid : Prop := Claim7.holds Tryd.pinned (.plain (OpenSpec.ofChange fnTvBuiltSpec)) fnTvBuiltCard

/-- THE TIED CARD OF 'laws.FnTvNearest'. -/
def fnTvNearestCard : Claim7 := { stood := { row := fnTvNearestRow, standIns := [], harness := (true, "1c0497d178c9950033bd54baa2faad88e482d081730b9464947ce230979c480d"), looks := true }, kinds := [], alts := [], laidByText := true, laidKinds := [.sentinel], laidTests := true, laidLooks := .later }
def FnTvNearestCardSaid : Prop := Claim7.holds Tryd.pinned (.plain (OpenSpec.ofChange fnTvNearestSpec)) fnTvNearestCard

/-- THE TIED CARD OF 'laws.FnTvWithin'. -/
def fnTvWithinCard : Claim7 := { stood := { row := fnTvWithinRow, standIns := [], harness := (true, "1c0497d178c9950033bd54baa2faad88e482d081730b9464947ce230979c480d"), looks := true }, kinds := [], alts := [], laidByText := true, laidKinds := [.sentinel], laidTests := true, laidLooks := .later }
def FnTvWithinCardSaid : Prop := Claim7.holds Tryd.pinned (.plain (OpenSpec.ofChange fnTvWithinSpec)) fnTvWithinCard

/-- THE SECOND FORM's CARD OF 'laws.FnTvBuilt'. -/
def fnTvBuiltUptoCard : Claim7 := { stood := { row := fnTvBuiltUptoRow, standIns := [], harness := (true, "1c0497d178c9950033bd54baa2faad88e482d081730b9464947ce230979c480d"), looks := true }, kinds := [], alts := [], laidByText := true, laidKinds := [.sentinel], laidTests := true, laidLooks := .later }
def FnTvBuiltUptoCardSaid : Prop := Claim7.holds Tryd.pinned (.plain (OpenSpec.upto fnTvBuiltSpec)) fnTvBuiltUptoCard

/-- THE SECOND FORM's CARD OF 'laws.FnTvNearest'. -/
def fnTvNearestUptoCard : Claim7 := { stood := { row := fnTvNearestUptoRow, standIns := [], harness := (true, "1c0497d178c9950033bd54baa2faad88e482d081730b9464947ce230979c480d"), looks := true }, kinds := [], alts := [], laidByText := true, laidKinds := [.sentinel], laidTests := true, laidLooks := .later }
def FnTvNearestUptoCardSaid : Prop := Claim7.holds Tryd.pinned (.plain (OpenSpec.upto fnTvNearestSpec)) fnTvNearestUptoCard

/-- THE SECOND FORM's CARD OF 'laws.FnTvWithin'. -/
def fnTvWithinUptoCard : Claim7 := { stood := { row := fnTvWithinUptoRow, standIns := [], harness := (true, "1c0497d178c9950033bd54baa2faad88e482d081730b9464947ce230979c480d"), looks := true }, kinds := [], alts := [], laidByText := true, laidKinds := [.sentinel], laidTests := true, laidLooks := .later }
def FnTvWithinUptoCardSaid : Prop := Claim7.holds Tryd.pinned (.plain (OpenSpec.upto fnTvWithinSpec)) fnTvWithinUptoCard
end Rows
end Go.Proofs.YtpamoleocjdjiaaDoor
