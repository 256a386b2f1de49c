/-
  DERIVED. GIVEN WITH THE SEED: THE CARDS: each row of YtnfjmngchapdnaaDoorRows.lean that lists a variable, with what it lists TIED to the program's text (the seventh form; the later family's looks); each row that meets fmt, with fmt's text TOLD by the authors' own Lean function (tested against real Go, not proved from fmt's source: count such statements apart). THE CARD IS WHAT COUNTS. Prove the row's statement (the work); the ties are given (YtnfjmngchapdnaaDoorTie.lean); close each card by the builder's one call (the guide's Derived/Test/ToyasCard.lean, 'card_holds'). Laid BY PROGRAM, IN A SANDBOX (cutbox-door.mjs). By AI agents, Wed Nov 11 2026. No macro, syntax, notation, axiom, sorry.
-/
import Derived.Test.YtnfjmngchapdnaaDoorRows
import GoSem.ClaimSeven
namespace Go.Proofs.YtnfjmngchapdnaaDoor
namespace Rows

/-- THE TIED CARD OF 'laws.FnBEncrypts'. -/
def fnBEncryptsCard : Claim7 := { stood := { row := fnBEncryptsRow, standIns := [], harness := (true, "f98d3f2ff2c91b06cb0313c6ec970e2396389d8fdd3da3eec6cc494a2930eaaf"), looks := true }, kinds := [], alts := [], laidByText := true, laidKinds := [.sentinel, .sentinel, .sentinel, .sentinel], laidTests := true, laidLooks := .later }
def FnBEncryptsCardSaid : Prop := Claim7.holds Tryd.pinned (.plain (OpenSpec.ofChange fnBEncryptsSpec)) fnBEncryptsCard

/-- THE SECOND FORM's CARD OF 'laws.FnBEncrypts'. -/
def fnBEncryptsUptoCard : Claim7 := { stood := { row := fnBEncryptsUptoRow, standIns := [], harness := (true, "f98d3f2ff2c91b06cb0313c6ec970e2396389d8fdd3da3eec6cc494a2930eaaf"), looks := true }, kinds := [], alts := [], laidByText := true, laidKinds := [.sentinel, .sentinel, .sentinel, .sentinel], laidTests := true, laidLooks := .later }
def FnBEncryptsUptoCardSaid : Prop := Claim7.holds Tryd.pinned (.plain (OpenSpec.upto fnBEncryptsSpec)) fnBEncryptsUptoCard
end Rows
end Go.Proofs.YtnfjmngchapdnaaDoor
