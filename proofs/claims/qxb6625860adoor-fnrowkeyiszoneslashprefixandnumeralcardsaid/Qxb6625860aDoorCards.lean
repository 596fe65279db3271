/-
  DERIVED. GIVEN WITH THE SEED: THE CARDS: each row of Qxb6625860aDoorRows.lean that lists a variable, with what it lists TIED to the program's text (the seventh form; the later family's looks); each row that meets fmt, with fmt's text TOLD by the authors' own Lean function (tested against real Go, not proved from fmt's source: count such statements apart). THE CARD IS WHAT COUNTS. Prove the row's statement (the work); the ties are given (Qxb6625860aDoorTie.lean); close each card by the builder's one call (the guide's Derived/Test/ToyasCard.lean, 'card_holds'). Laid BY PROGRAM, IN A SANDBOX (cutbox-door.mjs). By AI agents, Wed Nov 11 2026. No macro, syntax, notation, axiom, sorry.
-/
import Derived.Test.Qxb6625860aDoorRows
import GoSem.ClaimSeven
namespace Go.Proofs.Qxb6625860aDoor
namespace Rows

/-- THE TIED CARD OF 'zzlaws_internal_bench_b1.FnRowKeyIsZoneSlashPrefixAndNumeral'. -/
def fnRowKeyIsZoneSlashPrefixAndNumeralCard : Claim7 := { stood := { row := fnRowKeyIsZoneSlashPrefixAndNumeralRow, standIns := [], harness := (true, "ec448db268aa9a13368657776ac1e8860c12ddeef3eee77b77d8f088243583a4"), looks := false }, kinds := [], alts := [], laidByText := true, laidKinds := [.data, .data, .data], laidTests := true, laidLooks := .later }
def FnRowKeyIsZoneSlashPrefixAndNumeralCardSaid : Prop := Claim7.holds Tryd.pinned (.plain (OpenSpec.ofChange fnRowKeyIsZoneSlashPrefixAndNumeralSpec)) fnRowKeyIsZoneSlashPrefixAndNumeralCard

/-- THE TIED CARD OF 'zzlaws_internal_bench_b1.FnRowKeyInjective'. -/
def fnRowKeyInjectiveCard : Claim7 := { stood := { row := fnRowKeyInjectiveRow, standIns := [], harness := (true, "ec448db268aa9a13368657776ac1e8860c12ddeef3eee77b77d8f088243583a4"), looks := false }, kinds := [], alts := [], laidByText := true, laidKinds := [.data, .data, .data], laidTests := true, laidLooks := .later }
def FnRowKeyInjectiveCardSaid : Prop := Claim7.holds Tryd.pinned (.plain (OpenSpec.ofChange fnRowKeyInjectiveSpec)) fnRowKeyInjectiveCard
end Rows
end Go.Proofs.Qxb6625860aDoor
