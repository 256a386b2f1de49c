/-
  DERIVED. GIVEN WITH THE SEED: THE CARDS: each row of YtnfjmngchapdnaaGreatDoorRows.lean that lists a variable, with what it lists TIED to the program's text (the seventh form; the later family's looks); each row that meets fmt, with fmt's text TOLD by the authors' own Lean function (tested against real Go, not proved from fmt's source: count such statements apart). THE CARD IS WHAT COUNTS. Prove the row's statement (the work); the ties are given (YtnfjmngchapdnaaGreatDoorTie.lean); close each card by the builder's one call (the guide's Derived/Test/ToyasCard.lean, 'card_holds'). Laid BY PROGRAM, IN A SANDBOX (cutbox-door.mjs). By AI agents, Wed Nov 11 2026. No macro, syntax, notation, axiom, sorry.
-/
import Derived.Test.YtnfjmngchapdnaaGreatDoorRows
import GoSem.ClaimSeven
namespace Go.Proofs.YtnfjmngchapdnaaGreatDoor
namespace Rows

/-- THE TIED CARD OF 'laws.FnBDecrypts'. -/
def fnBDecryptsCard : Claim7 := { stood := { row := fnBDecryptsRow, standIns := [], harness := (true, "34874d2c9a7faf6d56307a52a2cbe8e64dbbb26d242f4d6873ccea37b82cfd7a"), looks := false }, kinds := [], alts := [], laidByText := true, laidKinds := [.sentinel], laidTests := true, laidLooks := .later }
def FnBDecryptsCardSaid : Prop := Claim7.holds Tryz.pinned (.plain (OpenSpec.ofChange fnBDecryptsSpec)) fnBDecryptsCard

/-- THE SECOND FORM's CARD OF 'laws.FnBDecrypts'. -/
def fnBDecryptsUptoCard : Claim7 := { stood := { row := fnBDecryptsUptoRow, standIns := [], harness := (true, "34874d2c9a7faf6d56307a52a2cbe8e64dbbb26d242f4d6873ccea37b82cfd7a"), looks := false }, kinds := [], alts := [], laidByText := true, laidKinds := [.sentinel], laidTests := true, laidLooks := .later }
def FnBDecryptsUptoCardSaid : Prop := Claim7.holds Tryz.pinned (.plain (OpenSpec.upto fnBDecryptsSpec)) fnBDecryptsUptoCard
end Rows
end Go.Proofs.YtnfjmngchapdnaaGreatDoor
