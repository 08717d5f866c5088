/-
  DERIVED. GIVEN WITH THE SEED: THE CARDS: each row of YtfbbileojddioaaDoorRows.lean that lists a variable, with what it lists TIED to the program's text (the seventh form; the later family's looks); each row that meets fmt, with fmt's text TOLD by the authors' own Lean function (tested against real Go, not proved from fmt's source: count such statements apart). THE CARD IS WHAT COUNTS. Prove the row's statement (the work); the ties are given (YtfbbileojddioaaDoorTie.lean); close each card by the builder's one call (the guide's Derived/Test/ToyasCard.lean, 'card_holds'). Laid BY PROGRAM, IN A SANDBOX (cutbox-door.mjs). By AI agents, Wed Nov 11 2026. No macro, syntax, notation, axiom, sorry.
-/
import Derived.Test.YtfbbileojddioaaDoorRows
import GoSem.ClaimSeven
namespace Go.Proofs.YtfbbileojddioaaDoor
namespace Rows

/-- THE TIED CARD OF 'laws.FnUnsignedWhole'. -/
def fnUnsignedWholeCard : Claim7 := { stood := { row := fnUnsignedWholeRow, standIns := [], harness := (true, "2087b4461db4ff53840611a77620b3bed0d63d01b9b96d4aaf34eaad368a5eb3"), looks := true }, kinds := [], alts := [], laidByText := true, laidKinds := [.data, .data, .data], laidTests := true, laidLooks := .later }
def FnUnsignedWholeCardSaid : Prop := Claim7.holds Tryd.pinned (.plain (OpenSpec.ofChange fnUnsignedWholeSpec)) fnUnsignedWholeCard

/-- THE TIED CARD OF 'laws.FnWholeWhole'. -/
def fnWholeWholeCard : Claim7 := { stood := { row := fnWholeWholeRow, standIns := [], harness := (true, "2087b4461db4ff53840611a77620b3bed0d63d01b9b96d4aaf34eaad368a5eb3"), looks := true }, kinds := [], alts := [], laidByText := true, laidKinds := [.data, .data, .data], laidTests := true, laidLooks := .later }
def FnWholeWholeCardSaid : Prop := Claim7.holds Tryd.pinned (.plain (OpenSpec.ofChange fnWholeWholeSpec)) fnWholeWholeCard

/-- THE SECOND FORM's CARD OF 'laws.FnUnsignedWhole'. -/
def fnUnsignedWholeUptoCard : Claim7 := { stood := { row := fnUnsignedWholeUptoRow, standIns := [], harness := (true, "2087b4461db4ff53840611a77620b3bed0d63d01b9b96d4aaf34eaad368a5eb3"), looks := true }, kinds := [], alts := [], laidByText := true, laidKinds := [.data, .data, .data], laidTests := true, laidLooks := .later }
def FnUnsignedWholeUptoCardSaid : Prop := Claim7.holds Tryd.pinned (.plain (OpenSpec.upto fnUnsignedWholeSpec)) fnUnsignedWholeUptoCard

/-- THE SECOND FORM's CARD OF 'laws.FnWholeWhole'. -/
def fnWholeWholeUptoCard : Claim7 := { stood := { row := fnWholeWholeUptoRow, standIns := [], harness := (true, "2087b4461db4ff53840611a77620b3bed0d63d01b9b96d4aaf34eaad368a5eb3"), looks := true }, kinds := [], alts := [], laidByText := true, laidKinds := [.data, .data, .data], laidTests := true, laidLooks := .later }
def FnWholeWholeUptoCardSaid : Prop := Claim7.holds Tryd.pinned (.plain (OpenSpec.upto fnWholeWholeSpec)) fnWholeWholeUptoCard
end Rows
end Go.Proofs.YtfbbileojddioaaDoor
