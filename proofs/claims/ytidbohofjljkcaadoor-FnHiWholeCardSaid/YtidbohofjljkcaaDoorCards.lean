/-
  DERIVED. GIVEN WITH THE SEED: THE CARDS: each row of YtidbohofjljkcaaDoorRows.lean that lists a variable, with what it lists TIED to the program's text (the seventh form; the later family's looks); each row that meets fmt, with fmt's text TOLD by the authors' own Lean function (tested against real Go, not proved from fmt's source: count such statements apart). THE CARD IS WHAT COUNTS. Prove the row's statement (the work); the ties are given (YtidbohofjljkcaaDoorTie.lean); close each card by the builder's one call (the guide's Derived/Test/ToyasCard.lean, 'card_holds'). Laid BY PROGRAM, IN A SANDBOX (cutbox-door.mjs). By AI agents, Wed Nov 11 2026. No macro, syntax, notation, axiom, sorry.
-/
import Derived.Test.YtidbohofjljkcaaDoorRows
import GoSem.ClaimSeven
namespace Go.Proofs.YtidbohofjljkcaaDoor
namespace Rows

/-- THE TIED CARD OF 'laws.FnHiCubes'. -/
def fnHiCubesCard : Claim7 := { stood := { row := fnHiCubesRow, standIns := [], harness := (true, "6419f3160e7c6c4ed5afe91c7fdf339ea50cf41d31854886fda14dd472a915e8"), looks := false }, kinds := [], alts := [], laidByText := true, laidKinds := [.sentinel, .sentinel], laidTests := true, laidLooks := .later }
def FnHiCubesCardSaid : Prop := Claim7.holds Tryd.pinned (.plain (OpenSpec.ofChange fnHiCubesSpec)) fnHiCubesCard

/-- THE TIED CARD OF 'laws.FnHiMirror'. -/
def fnHiMirrorCard : Claim7 := { stood := { row := fnHiMirrorRow, standIns := [], harness := (true, "6419f3160e7c6c4ed5afe91c7fdf339ea50cf41d31854886fda14dd472a915e8"), looks := false }, kinds := [], alts := [], laidByText := true, laidKinds := [.sentinel, .sentinel], laidTests := true, laidLooks := .later }
def FnHiMirrorCardSaid : Prop := Claim7.holds Tryd.pinned (.plain (OpenSpec.ofChange fnHiMirrorSpec)) fnHiMirrorCard

/-- THE TIED CARD OF 'laws.FnHiSteps'. -/
def fnHiStepsCard : Claim7 := { stood := { row := fnHiStepsRow, standIns := [], harness := (true, "6419f3160e7c6c4ed5afe91c7fdf339ea50cf41d31854886fda14dd472a915e8"), looks := false }, kinds := [], alts := [], laidByText := true, laidKinds := [.sentinel, .sentinel], laidTests := true, laidLooks := .later }
def FnHiStepsCardSaid : Prop := Claim7.holds Tryd.pinned (.plain (OpenSpec.ofChange fnHiStepsSpec)) fnHiStepsCard

/-- THE TIED CARD OF 'laws.FnHiWhole'. -/
def fnHiWholeCard : Claim7 := { stood := { row := fnHiWholeRow, standIns := [], harness := (true, "6419f3160e7c6c4ed5afe91c7fdf339ea50cf41d31854886fda14dd472a915e8"), looks := false }, kinds := [], alts := [], laidByText := true, laidKinds := [.sentinel, .sentinel], laidTests := true, laidLooks := .later }
def FnHiWholeCardSaid : Prop := Claim7.holds Tryd.pinned (.plain (OpenSpec.ofChange fnHiWholeSpec)) fnHiWholeCard

/-- THE SECOND FORM's CARD OF 'laws.FnHiCubes'. -/
def fnHiCubesUptoCard : Claim7 := { stood := { row := fnHiCubesUptoRow, standIns := [], harness := (true, "6419f3160e7c6c4ed5afe91c7fdf339ea50cf41d31854886fda14dd472a915e8"), looks := false }, kinds := [], alts := [], laidByText := true, laidKinds := [.sentinel, .sentinel], laidTests := true, laidLooks := .later }
def FnHiCubesUptoCardSaid : Prop := Claim7.holds Tryd.pinned (.plain (OpenSpec.upto fnHiCubesSpec)) fnHiCubesUptoCard

/-- THE SECOND FORM's CARD OF 'laws.FnHiMirror'. -/
def fnHiMirrorUptoCard : Claim7 := { stood := { row := fnHiMirrorUptoRow, standIns := [], harness := (true, "6419f3160e7c6c4ed5afe91c7fdf339ea50cf41d31854886fda14dd472a915e8"), looks := false }, kinds := [], alts := [], laidByText := true, laidKinds := [.sentinel, .sentinel], laidTests := true, laidLooks := .later }
def FnHiMirrorUptoCardSaid : Prop := Claim7.holds Tryd.pinned (.plain (OpenSpec.upto fnHiMirrorSpec)) fnHiMirrorUptoCard

/-- THE SECOND FORM's CARD OF 'laws.FnHiSteps'. -/
def fnHiStepsUptoCard : Claim7 := { stood := { row := fnHiStepsUptoRow, standIns := [], harness := (true, "6419f3160e7c6c4ed5afe91c7fdf339ea50cf41d31854886fda14dd472a915e8"), looks := false }, kinds := [], alts := [], laidByText := true, laidKinds := [.sentinel, .sentinel], laidTests := true, laidLooks := .later }
def FnHiStepsUptoCardSaid : Prop := Claim7.holds Tryd.pinned (.plain (OpenSpec.upto fnHiStepsSpec)) fnHiStepsUptoCard

/-- THE SECOND FORM's CARD OF 'laws.FnHiWhole'. -/
def fnHiWholeUptoCard : Claim7 := { stood := { row := fnHiWholeUptoRow, standIns := [], harness := (true, "6419f3160e7c6c4ed5afe91c7fdf339ea50cf41d31854886fda14dd472a915e8"), looks := false }, kinds := [], alts := [], laidByText := true, laidKinds := [.sentinel, .sentinel], laidTests := true, laidLooks := .later }
def FnHiWholeUptoCardSaid : Prop := Claim7.holds Tryd.pinned (.plain (OpenSpec.upto fnHiWholeSpec)) fnHiWholeUptoCard
end Rows
end Go.Proofs.YtidbohofjljkcaaDoor
