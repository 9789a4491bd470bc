/-
  DERIVED. GIVEN WITH THE SEED: THE CARDS: each row of YtoegdojeajeoaaaDoorRows.lean that lists a variable, with what it lists TIED to the program's text (the seventh form; the later family's looks); each row that meets fmt, with fmt's text TOLD by the authors' own Lean function (tested against real Go, not proved from fmt's source: count such statements apart). THE CARD IS WHAT COUNTS. Prove the row's statement (the work); the ties are given (YtoegdojeajeoaaaDoorTie.lean); close each card by the builder's one call (the guide's Derived/Test/ToyasCard.lean, 'card_holds'). Laid BY PROGRAM, IN A SANDBOX (cutbox-door.mjs). By AI agents, Wed Nov 11 2026. No macro, syntax, notation, axiom, sorry.
-/
import Derived.Test.YtoegdojeajeoaaaDoorRows
import GoSem.ClaimSeven
namespace Go.Proofs.YtoegdojeajeoaaaDoor
namespace Rows

/-- THE TIED CARD OF 'laws.FnHas'. -/
def fnHasCard : Claim7 := { stood := { row := fnHasRow, standIns := [], harness := (true, "3eb00179537a5ae4fcfbf258531816c75142376c248e154b3db28e16c3052ed3"), looks := false }, kinds := [], alts := [], laidByText := true, laidKinds := [.data, .listed, .data, .pinned], laidTests := true, laidLooks := .later }
def FnHasCardSaid : Prop := Claim7.holds Tryd.pinned (.plain (OpenSpec.ofChange fnHasSpec)) fnHasCard

/-- THE TIED CARD OF 'laws.FnExactTag'. -/
def fnExactTagCard : Claim7 := { stood := { row := fnExactTagRow, standIns := [], harness := (true, "3eb00179537a5ae4fcfbf258531816c75142376c248e154b3db28e16c3052ed3"), looks := false }, kinds := [], alts := [], laidByText := true, laidKinds := [.data, .listed, .data, .pinned], laidTests := true, laidLooks := .later }
def FnExactTagCardSaid : Prop := Claim7.holds Tryd.pinned (.plain (OpenSpec.ofChange fnExactTagSpec)) fnExactTagCard

/-- THE TIED CARD OF 'laws.FnNameless'. -/
def fnNamelessCard : Claim7 := { stood := { row := fnNamelessRow, standIns := [], harness := (true, "3eb00179537a5ae4fcfbf258531816c75142376c248e154b3db28e16c3052ed3"), looks := false }, kinds := [], alts := [], laidByText := true, laidKinds := [.data, .listed, .data, .pinned], laidTests := true, laidLooks := .later }
def FnNamelessCardSaid : Prop := Claim7.holds Tryd.pinned (.plain (OpenSpec.ofChange fnNamelessSpec)) fnNamelessCard

/-- THE TIED CARD OF 'laws.FnExactFlags'. -/
def fnExactFlagsCard : Claim7 := { stood := { row := fnExactFlagsRow, standIns := [], harness := (true, "3eb00179537a5ae4fcfbf258531816c75142376c248e154b3db28e16c3052ed3"), looks := false }, kinds := [], alts := [], laidByText := true, laidKinds := [.data, .listed, .data, .pinned], laidTests := true, laidLooks := .later }
def FnExactFlagsCardSaid : Prop := Claim7.holds Tryd.pinned (.plain (OpenSpec.ofChange fnExactFlagsSpec)) fnExactFlagsCard

/-- THE TIED CARD OF 'laws.FnOrder'. -/
def fnOrderCard : Claim7 := { stood := { row := fnOrderRow, standIns := [], harness := (true, "3eb00179537a5ae4fcfbf258531816c75142376c248e154b3db28e16c3052ed3"), looks := false }, kinds := [], alts := [], laidByText := true, laidKinds := [.data, .listed, .data, .pinned], laidTests := true, laidLooks := .later }
def FnOrderCardSaid : Prop := Claim7.holds Tryd.pinned (.plain (OpenSpec.ofChange fnOrderSpec)) fnOrderCard

/-- THE SECOND FORM's CARD OF 'laws.FnHas'. -/
def fnHasUptoCard : Claim7 := { stood := { row := fnHasUptoRow, standIns := [], harness := (true, "3eb00179537a5ae4fcfbf258531816c75142376c248e154b3db28e16c3052ed3"), looks := false }, kinds := [], alts := [], laidByText := true, laidKinds := [.data, .listed, .data, .pinned], laidTests := true, laidLooks := .later }
def FnHasUptoCardSaid : Prop := Claim7.holds Tryd.pinned (.plain (OpenSpec.upto fnHasSpec)) fnHasUptoCard

/-- THE SECOND FORM's CARD OF 'laws.FnExactTag'. -/
def fnExactTagUptoCard : Claim7 := { stood := { row := fnExactTagUptoRow, standIns := [], harness := (true, "3eb00179537a5ae4fcfbf258531816c75142376c248e154b3db28e16c3052ed3"), looks := false }, kinds := [], alts := [], laidByText := true, laidKinds := [.data, .listed, .data, .pinned], laidTests := true, laidLooks := .later }
def FnExactTagUptoCardSaid : Prop := Claim7.holds Tryd.pinned (.plain (OpenSpec.upto fnExactTagSpec)) fnExactTagUptoCard

/-- THE SECOND FORM's CARD OF 'laws.FnNameless'. -/
def fnNamelessUptoCard : Claim7 := { stood := { row := fnNamelessUptoRow, standIns := [], harness := (true, "3eb00179537a5ae4fcfbf258531816c75142376c248e154b3db28e16c3052ed3"), looks := false }, kinds := [], alts := [], laidByText := true, laidKinds := [.data, .listed, .data, .pinned], laidTests := true, laidLooks := .later }
def FnNamelessUptoCardSaid : Prop := Claim7.holds Tryd.pinned (.plain (OpenSpec.upto fnNamelessSpec)) fnNamelessUptoCard

/-- THE SECOND FORM's CARD OF 'laws.FnExactFlags'. -/
def fnExactFlagsUptoCard : Claim7 := { stood := { row := fnExactFlagsUptoRow, standIns := [], harness := (true, "3eb00179537a5ae4fcfbf258531816c75142376c248e154b3db28e16c3052ed3"), looks := false }, kinds := [], alts := [], laidByText := true, laidKinds := [.data, .listed, .data, .pinned], laidTests := true, laidLooks := .later }
def FnExactFlagsUptoCardSaid : Prop := Claim7.holds Tryd.pinned (.plain (OpenSpec.upto fnExactFlagsSpec)) fnExactFlagsUptoCard

/-- THE SECOND FORM's CARD OF 'laws.FnOrder'. -/
def fnOrderUptoCard : Claim7 := { stood := { row := fnOrderUptoRow, standIns := [], harness := (true, "3eb00179537a5ae4fcfbf258531816c75142376c248e154b3db28e16c3052ed3"), looks := false }, kinds := [], alts := [], laidByText := true, laidKinds := [.data, .listed, .data, .pinned], laidTests := true, laidLooks := .later }
def FnOrderUptoCardSaid : Prop := Claim7.holds Tryd.pinned (.plain (OpenSpec.upto fnOrderSpec)) fnOrderUptoCard
end Rows
end Go.Proofs.YtoegdojeajeoaaaDoor
