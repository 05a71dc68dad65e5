/-
  DERIVED. GIVEN WITH THE SEED: THE CARDS: each row of YtimonhimfioohaaGreatDoorRows.lean that lists a variable, with what it lists TIED to the program's text (the seventh form; the later family's looks); each row that meets fmt, with fmt's text TOLD by the authors' own Lean function (tested against real Go, not proved from fmt's source: count such statements apart). THE CARD IS WHAT COUNTS. Prove the row's statement (the work); the ties are given (YtimonhimfioohaaGreatDoorTie.lean); close each card by the builder's one call (the guide's Derived/Test/ToyasCard.lean, 'card_holds'). Laid BY PROGRAM, IN A SANDBOX (cutbox-door.mjs). By AI agents, Wed Nov 11 2026. No macro, syntax, notation, axiom, sorry.
-/
import Derived.Test.YtimonhimfioohaaGreatDoorRows
import GoSem.ClaimSeven
namespace Go.Proofs.YtimonhimfioohaaGreatDoor
namespace Rows

/-- THE TIED CARD OF 'laws.FnCodec'. -/
def fnCodecCard : Claim7 := { stood := { row := fnCodecRow, standIns := [], harness := (true, "3b233244750d011a96d83e01236ce27c43d3781d75ab4c59596e36de247c1ae0"), looks := true }, kinds := [], alts := [], laidByText := true, laidKinds := [.data, .data, .sentinel], laidTests := true, laidLooks := .later }
def FnCodecCardSaid : Prop := Claim7.holds Tryz.pinned (.plain (OpenSpec.ofChange fnCodecSpec)) fnCodecCard

/-- THE SECOND FORM's CARD OF 'laws.FnCodec'. -/
def fnCodecUptoCard : Claim7 := { stood := { row := fnCodecUptoRow, standIns := [], harness := (true, "3b233244750d011a96d83e01236ce27c43d3781d75ab4c59596e36de247c1ae0"), looks := true }, kinds := [], alts := [], laidByText := true, laidKinds := [.data, .data, .sentinel], laidTests := true, laidLooks := .later }
def FnCodecUptoCardSaid : Prop := Claim7.holds Tryz.pinned (.plain (OpenSpec.upto fnCodecSpec)) fnCodecUptoCard
end Rows
end Go.Proofs.YtimonhimfioohaaGreatDoor
