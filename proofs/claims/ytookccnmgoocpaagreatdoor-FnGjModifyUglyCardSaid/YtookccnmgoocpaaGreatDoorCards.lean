/-
  DERIVED. GIVEN WITH THE SEED: THE CARDS: each row of YtookccnmgoocpaaGreatDoorRows.lean that lists a variable, with what it lists TIED to the program's text (the seventh form; the later family's looks); each row that meets fmt, with fmt's text TOLD by the authors' own Lean function (tested against real Go, not proved from fmt's source: count such statements apart). THE CARD IS WHAT COUNTS. Prove the row's statement (the work); the ties are given (YtookccnmgoocpaaGreatDoorTie.lean); close each card by the builder's one call (the guide's Derived/Test/ToyasCard.lean, 'card_holds'). Laid BY PROGRAM, IN A SANDBOX (cutbox-door.mjs). By AI agents, Wed Nov 11 2026. No macro, syntax, notation, axiom, sorry.
-/
import Derived.Test.YtookccnmgoocpaaGreatDoorRows
import GoSem.ClaimSeven
namespace Go.Proofs.YtookccnmgoocpaaGreatDoor
namespace Rows

/-- THE TIED CARD OF 'laws.FnGjNamesCount'. -/
def fnGjNamesCountCard : Claim7 := { stood := { row := fnGjNamesCountRow, standIns := [], harness := (true, "c026bc20a168eabe5c5d96cb8a535520079764c098b89683353efa047e5ab3e6"), looks := true }, kinds := [], alts := [], laidByText := true, laidKinds := [.data, .data, .widerDeep, .widerDeep, .data, .data, .data, .data, .data, .data, .sentinel, .sentinel, .data, .data, .pinned, .pinned, .pinned], laidTests := true, laidLooks := .later }
def FnGjNamesCountCardSaid : Prop := Claim7.holds Tryz.pinned (.plain (OpenSpec.ofChange fnGjNamesCountSpec)) fnGjNamesCountCard

/-- THE TIED CARD OF 'laws.FnGjPipes'. -/
def fnGjPipesCard : Claim7 := { stood := { row := fnGjPipesRow, standIns := [], harness := (true, "c026bc20a168eabe5c5d96cb8a535520079764c098b89683353efa047e5ab3e6"), looks := true }, kinds := [], alts := [], laidByText := true, laidKinds := [.data, .data, .widerDeep, .widerDeep, .data, .data, .data, .data, .data, .data, .sentinel, .sentinel, .data, .data, .pinned, .pinned, .pinned], laidTests := true, laidLooks := .later }
def FnGjPipesCardSaid : Prop := Claim7.holds Tryz.pinned (.plain (OpenSpec.ofChange fnGjPipesSpec)) fnGjPipesCard

/-- THE TIED CARD OF 'laws.FnGjArrayPathHash'. -/
def fnGjArrayPathHashCard : Claim7 := { stood := { row := fnGjArrayPathHashRow, standIns := [], harness := (true, "c026bc20a168eabe5c5d96cb8a535520079764c098b89683353efa047e5ab3e6"), looks := true }, kinds := [], alts := [], laidByText := true, laidKinds := [.data, .data, .widerDeep, .widerDeep, .data, .data, .data, .data, .data, .data, .sentinel, .sentinel, .data, .data, .pinned, .pinned, .pinned], laidTests := true, laidLooks := .later }
def FnGjArrayPathHashCardSaid : Prop := Claim7.holds Tryz.pinned (.plain (OpenSpec.ofChange fnGjArrayPathHashSpec)) fnGjArrayPathHashCard

/-- THE TIED CARD OF 'laws.FnGjModifyUgly'. -/
def fnGjModifyUglyCard : Claim7 := { stood := { row := fnGjModifyUglyRow, standIns := [], harness := (true, "c026bc20a168eabe5c5d96cb8a535520079764c098b89683353efa047e5ab3e6"), looks := true }, kinds := [], alts := [], laidByText := true, laidKinds := [.data, .data, .widerDeep, .widerDeep, .data, .data, .data, .data, .data, .data, .sentinel, .sentinel, .data, .data, .pinned, .pinned, .pinned], laidTests := true, laidLooks := .later }
def FnGjModifyUglyCardSaid : Prop := Claim7.holds Tryz.pinned (.plain (OpenSpec.ofChange fnGjModifyUglySpec)) fnGjModifyUglyCard

/-- THE SECOND FORM's CARD OF 'laws.FnGjNamesCount'. -/
def fnGjNamesCountUptoCard : Claim7 := { stood := { row := fnGjNamesCountUptoRow, standIns := [], harness := (true, "c026bc20a168eabe5c5d96cb8a535520079764c098b89683353efa047e5ab3e6"), looks := true }, kinds := [], alts := [], laidByText := true, laidKinds := [.data, .data, .widerDeep, .widerDeep, .data, .data, .data, .data, .data, .data, .sentinel, .sentinel, .data, .data, .pinned, .pinned, .pinned], laidTests := true, laidLooks := .later }
def FnGjNamesCountUptoCardSaid : Prop := Claim7.holds Tryz.pinned (.plain (OpenSpec.upto fnGjNamesCountSpec)) fnGjNamesCountUptoCard

/-- THE SECOND FORM's CARD OF 'laws.FnGjPipes'. -/
def fnGjPipesUptoCard : Claim7 := { stood := { row := fnGjPipesUptoRow, standIns := [], harness := (true, "c026bc20a168eabe5c5d96cb8a535520079764c098b89683353efa047e5ab3e6"), looks := true }, kinds := [], alts := [], laidByText := true, laidKinds := [.data, .data, .widerDeep, .widerDeep, .data, .data, .data, .data, .data, .data, .sentinel, .sentinel, .data, .data, .pinned, .pinned, .pinned], laidTests := true, laidLooks := .later }
def FnGjPipesUptoCardSaid : Prop := Claim7.holds Tryz.pinned (.plain (OpenSpec.upto fnGjPipesSpec)) fnGjPipesUptoCard

/-- THE SECOND FORM's CARD OF 'laws.FnGjArrayPathHash'. -/
def fnGjArrayPathHashUptoCard : Claim7 := { stood := { row := fnGjArrayPathHashUptoRow, standIns := [], harness := (true, "c026bc20a168eabe5c5d96cb8a535520079764c098b89683353efa047e5ab3e6"), looks := true }, kinds := [], alts := [], laidByText := true, laidKinds := [.data, .data, .widerDeep, .widerDeep, .data, .data, .data, .data, .data, .data, .sentinel, .sentinel, .data, .data, .pinned, .pinned, .pinned], laidTests := true, laidLooks := .later }
def FnGjArrayPathHashUptoCardSaid : Prop := Claim7.holds Tryz.pinned (.plain (OpenSpec.upto fnGjArrayPathHashSpec)) fnGjArrayPathHashUptoCard

/-- THE SECOND FORM's CARD OF 'laws.FnGjModifyUgly'. -/
def fnGjModifyUglyUptoCard : Claim7 := { stood := { row := fnGjModifyUglyUptoRow, standIns := [], harness := (true, "c026bc20a168eabe5c5d96cb8a535520079764c098b89683353efa047e5ab3e6"), looks := true }, kinds := [], alts := [], laidByText := true, laidKinds := [.data, .data, .widerDeep, .widerDeep, .data, .data, .data, .data, .data, .data, .sentinel, .sentinel, .data, .data, .pinned, .pinned, .pinned], laidTests := true, laidLooks := .later }
def FnGjModifyUglyUptoCardSaid : Prop := Claim7.holds Tryz.pinned (.plain (OpenSpec.upto fnGjModifyUglySpec)) fnGjModifyUglyUptoCard
end Rows
end Go.Proofs.YtookccnmgoocpaaGreatDoor
