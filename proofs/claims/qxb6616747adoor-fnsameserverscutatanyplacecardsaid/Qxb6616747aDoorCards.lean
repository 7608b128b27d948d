/-
  DERIVED. GIVEN WITH THE SEED: THE CARDS: each row of Qxb6616747aDoorRows.lean that lists a variable, with what it lists TIED to the program's text (the seventh form; the later family's looks); each row that meets fmt, with fmt's text TOLD by the authors' own Lean function (tested against real Go, not proved from fmt's source: count such statements apart). THE CARD IS WHAT COUNTS. Prove the row's statement (the work); the ties are given (Qxb6616747aDoorTie.lean); close each card by the builder's one call (the guide's Derived/Test/ToyasCard.lean, 'card_holds'). Laid BY PROGRAM, IN A SANDBOX (cutbox-door.mjs). By AI agents, Wed Nov 11 2026. No macro, syntax, notation, axiom, sorry.
-/
import Derived.Test.Qxb6616747aDoorRows
import GoSem.ClaimSeven
namespace Go.Proofs.Qxb6616747aDoor
namespace Rows

/-- THE TIED CARD OF 'zzlaws_internal_discovery_b1.FnSameServersIsHostEquality'. -/
def fnSameServersIsHostEqualityCard : Claim7 := { stood := { row := fnSameServersIsHostEqualityRow, standIns := [], harness := (true, "90d7c70628a490973f3405bbe1a6f429ae6850465b23761e1dfb6afbc689586a"), looks := false }, kinds := [], alts := [], laidByText := true, laidKinds := [.data], laidTests := true, laidLooks := .later }
def FnSameServersIsHostEqualityCardSaid : Prop := Claim7.holds Tryd.pinned (.plain (OpenSpec.ofChange fnSameServersIsHostEqualitySpec)) fnSameServersIsHostEqualityCard

/-- THE TIED CARD OF 'zzlaws_internal_discovery_b1.FnSameServersCutAtAnyPlace'. -/
def fnSameServersCutAtAnyPlaceCard : Claim7 := { stood := { row := fnSameServersCutAtAnyPlaceRow, standIns := [], harness := (true, "90d7c70628a490973f3405bbe1a6f429ae6850465b23761e1dfb6afbc689586a"), looks := false }, kinds := [], alts := [], laidByText := true, laidKinds := [.data], laidTests := true, laidLooks := .later }
def FnSameServersCutAtAnyPlaceCardSaid : Prop := Claim7.holds Tryd.pinned (.plain (OpenSpec.ofChange fnSameServersCutAtAnyPlaceSpec)) fnSameServersCutAtAnyPlaceCard
end Rows
end Go.Proofs.Qxb6616747aDoor
