/-
  DERIVED. GIVEN WITH THE SEED: THE CARDS: each row of YtbcjhkncifckiaaDoorRows.lean that lists a variable, with what it lists TIED to the program's text (the seventh form; the later family's looks); each row that meets fmt, with fmt's text TOLD by the authors' own Lean function (tested against real Go, not proved from fmt's source: count such statements apart). THE CARD IS WHAT COUNTS. Prove the row's statement (the work); the ties are given (YtbcjhkncifckiaaDoorTie.lean); close each card by the builder's one call (the guide's Derived/Test/ToyasCard.lean, 'card_holds'). Laid BY PROGRAM, IN A SANDBOX (cutbox-door.mjs). By AI agents, Wed Nov 11 2026. No macro, syntax, notation, axiom, sorry.
-/
import Derived.Test.YtbcjhkncifckiaaDoorRows
import GoSem.ClaimSeven
namespace Go.Proofs.YtbcjhkncifckiaaDoor
namespace Rows

/-- THE TIED CARD OF 'laws.FnAntialias'. -/
def fnAntialiasCard : Claim7 := { stood := { row := fnAntialiasRow, standIns := [], harness := (true, "6fbfd150561b1a24bfca1b24fcf301a03bf458ae451434d4601d140236767a6c"), looks := false }, kinds := [], alts := [], laidByText := true, laidKinds := [.data, .data], laidTests := true, laidLooks := .later }
def FnAntialiasCardSaid : Prop := Claim7.holds Tryd.pinned (.plain (OpenSpec.ofChange fnAntialiasSpec)) fnAntialiasCard

/-- THE TIED CARD OF 'laws.FnStereo'. -/
def fnStereoCard : Claim7 := { stood := { row := fnStereoRow, standIns := [], harness := (true, "6fbfd150561b1a24bfca1b24fcf301a03bf458ae451434d4601d140236767a6c"), looks := false }, kinds := [], alts := [], laidByText := true, laidKinds := [.data], laidTests := true, laidLooks := .later }
def FnStereoCardSaid : Prop := Claim7.holds Tryd.pinned (.plain (OpenSpec.ofChange fnStereoSpec)) fnStereoCard

/-- THE TIED CARD OF 'laws.FnStereoTwice'. -/
def fnStereoTwiceCard : Claim7 := { stood := { row := fnStereoTwiceRow, standIns := [], harness := (true, "6fbfd150561b1a24bfca1b24fcf301a03bf458ae451434d4601d140236767a6c"), looks := false }, kinds := [], alts := [], laidByText := true, laidKinds := [.data], laidTests := true, laidLooks := .later }
def FnStereoTwiceCardSaid : Prop := Claim7.holds Tryd.pinned (.plain (OpenSpec.ofChange fnStereoTwiceSpec)) fnStereoTwiceCard

/-- THE TIED CARD OF 'laws.FnHybrid'. -/
def fnHybridCard : Claim7 := { stood := { row := fnHybridRow, standIns := [], harness := (true, "6fbfd150561b1a24bfca1b24fcf301a03bf458ae451434d4601d140236767a6c"), looks := false }, kinds := [], alts := [], laidByText := true, laidKinds := [.data, .data, .data], laidTests := true, laidLooks := .later }
def FnHybridCardSaid : Prop := Claim7.holds Tryd.pinned (.plain (OpenSpec.ofChange fnHybridSpec)) fnHybridCard

/-- THE SECOND FORM's CARD OF 'laws.FnAntialias'. -/
def fnAntialiasUptoCard : Claim7 := { stood := { row := fnAntialiasUptoRow, standIns := [], harness := (true, "6fbfd150561b1a24bfca1b24fcf301a03bf458ae451434d4601d140236767a6c"), looks := false }, kinds := [], alts := [], laidByText := true, laidKinds := [.data, .data], laidTests := true, laidLooks := .later }
def FnAntialiasUptoCardSaid : Prop := Claim7.holds Tryd.pinned (.plain (OpenSpec.upto fnAntialiasSpec)) fnAntialiasUptoCard

/-- THE SECOND FORM's CARD OF 'laws.FnStereo'. -/
def fnStereoUptoCard : Claim7 := { stood := { row := fnStereoUptoRow, standIns := [], harness := (true, "6fbfd150561b1a24bfca1b24fcf301a03bf458ae451434d4601d140236767a6c"), looks := false }, kinds := [], alts := [], laidByText := true, laidKinds := [.data], laidTests := true, laidLooks := .later }
def FnStereoUptoCardSaid : Prop := Claim7.holds Tryd.pinned (.plain (OpenSpec.upto fnStereoSpec)) fnStereoUptoCard

/-- THE SECOND FORM's CARD OF 'laws.FnStereoTwice'. -/
def fnStereoTwiceUptoCard : Claim7 := { stood := { row := fnStereoTwiceUptoRow, standIns := [], harness := (true, "6fbfd150561b1a24bfca1b24fcf301a03bf458ae451434d4601d140236767a6c"), looks := false }, kinds := [], alts := [], laidByText := true, laidKinds := [.data], laidTests := true, laidLooks := .later }
def FnStereoTwiceUptoCardSaid : Prop := Claim7.holds Tryd.pinned (.plain (OpenSpec.upto fnStereoTwiceSpec)) fnStereoTwiceUptoCard

/-- THE SECOND FORM's CARD OF 'laws.FnHybrid'. -/
def fnHybridUptoCard : Claim7 := { stood := { row := fnHybridUptoRow, standIns := [], harness := (true, "6fbfd150561b1a24bfca1b24fcf301a03bf458ae451434d4601d140236767a6c"), looks := false }, kinds := [], alts := [], laidByText := true, laidKinds := [.data, .data, .data], laidTests := true, laidLooks := .later }
def FnHybridUptoCardSaid : Prop := Claim7.holds Tryd.pinned (.plain (OpenSpec.upto fnHybridSpec)) fnHybridUptoCard
end Rows
end Go.Proofs.YtbcjhkncifckiaaDoor
