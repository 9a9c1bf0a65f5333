/-
  DERIVED. GIVEN WITH THE SEED: THE CARDS: each row of Qxb6602887aDoorRows.lean that lists a variable, with what it lists TIED to the program's text (the seventh form; the later family's looks); each row that meets fmt, with fmt's text TOLD by the authors' own Lean function (tested against real Go, not proved from fmt's source: count such statements apart). THE CARD IS WHAT COUNTS. Prove the row's statement (the work); the ties are given (Qxb6602887aDoorTie.lean); close each card by the builder's one call (the guide's Derived/Test/ToyasCard.lean, 'card_holds'). Laid BY PROGRAM, IN A SANDBOX (cutbox-door.mjs). By AI agents, Wed Nov 11 2026. No macro, syntax, notation, axiom, sorry.
-/
import Derived.Test.Qxb6602887aDoorRows
import GoSem.ClaimSeven
namespace Go.Proofs.Qxb6602887aDoor
namespace Rows

/-- THE TIED CARD OF 'zzlaws_root_b1.FnStatusStringSpec'. -/
def fnStatusStringSpecCard : Claim7 := { stood := { row := fnStatusStringSpecRow, standIns := [], harness := (true, "055ecb50e309785a8d99a2cf94bd910994651ab500cf101da5c97c50ff4e989a"), looks := false }, kinds := [], alts := [], laidByText := true, laidKinds := [.data, .data, .data], laidTests := true, laidLooks := .later }
def FnStatusStringSpecCardSaid : Prop := Claim7.holds Tryd.pinned (.plain (OpenSpec.ofChange fnStatusStringSpecSpec)) fnStatusStringSpecCard

/-- THE TIED CARD OF 'zzlaws_root_b1.FnStatusStringInjective'. -/
def fnStatusStringInjectiveCard : Claim7 := { stood := { row := fnStatusStringInjectiveRow, standIns := [], harness := (true, "055ecb50e309785a8d99a2cf94bd910994651ab500cf101da5c97c50ff4e989a"), looks := false }, kinds := [], alts := [], laidByText := true, laidKinds := [.data, .data, .data], laidTests := true, laidLooks := .later }
def FnStatusStringInjectiveCardSaid : Prop := Claim7.holds Tryd.pinned (.plain (OpenSpec.ofChange fnStatusStringInjectiveSpec)) fnStatusStringInjectiveCard
end Rows
end Go.Proofs.Qxb6602887aDoor
