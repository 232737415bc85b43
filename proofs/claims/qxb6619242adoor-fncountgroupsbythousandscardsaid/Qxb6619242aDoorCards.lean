/-
  DERIVED. GIVEN WITH THE SEED: THE CARDS: each row of Qxb6619242aDoorRows.lean that lists a variable, with what it lists TIED to the program's text (the seventh form; the later family's looks); each row that meets fmt, with fmt's text TOLD by the authors' own Lean function (tested against real Go, not proved from fmt's source: count such statements apart). THE CARD IS WHAT COUNTS. Prove the row's statement (the work); the ties are given (Qxb6619242aDoorTie.lean); close each card by the builder's one call (the guide's Derived/Test/ToyasCard.lean, 'card_holds'). Laid BY PROGRAM, IN A SANDBOX (cutbox-door.mjs). By AI agents, Wed Nov 11 2026. No macro, syntax, notation, axiom, sorry.
-/
import Derived.Test.Qxb6619242aDoorRows
import GoSem.ClaimSeven
namespace Go.Proofs.Qxb6619242aDoor
namespace Rows

/-- THE TIED CARD OF 'zzlaws_internal_server_b1.FnCountGroupsByThousands'. -/
def fnCountGroupsByThousandsCard : Claim7 := { stood := { row := fnCountGroupsByThousandsRow, standIns := [], harness := (true, "156c56646912837599bee314d60a53462a696b66cf2c6bb1222a61dedae33e6f"), looks := false }, kinds := [], alts := [], laidByText := true, laidKinds := [.data, .data, .data], laidTests := true, laidLooks := .later }
def FnCountGroupsByThousandsCardSaid : Prop := Claim7.holds Tryd.pinned (.plain (OpenSpec.ofChange fnCountGroupsByThousandsSpec)) fnCountGroupsByThousandsCard
end Rows
end Go.Proofs.Qxb6619242aDoor
