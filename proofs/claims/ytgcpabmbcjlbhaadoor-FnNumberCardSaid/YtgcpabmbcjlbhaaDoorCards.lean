/-
  DERIVED. GIVEN WITH THE SEED: THE CARDS: each row of YtgcpabmbcjlbhaaDoorRows.lean that lists a variable, with what it lists TIED to the program's text (the seventh form; the later family's looks); each row that meets fmt, with fmt's text TOLD by the authors' own Lean function (tested against real Go, not proved from fmt's source: count such statements apart). THE CARD IS WHAT COUNTS. Prove the row's statement (the work); the ties are given (YtgcpabmbcjlbhaaDoorTie.lean); close each card by the builder's one call (the guide's Derived/Test/ToyasCard.lean, 'card_holds'). Laid BY PROGRAM, IN A SANDBOX (cutbox-door.mjs). By AI agents, Wed Nov 11 2026. No macro, syntax, notation, axiom, sorry.
-/
import Derived.Test.YtgcpabmbcjlbhaaDoorRows
import GoSem.ClaimSeven
namespace Go.Proofs.YtgcpabmbcjlbhaaDoor
namespace Rows

/-- THE TIED CARD OF 'laws.FnNumber'. -/
def fnNumberCard : Claim7 := { stood := { row := fnNumberRow, standIns := [], harness := (true, "90c57a3e5163f72af7e4992c6be433062723edc18d9696724e2d771c1e3870d7"), looks := true }, kinds := [], alts := [], laidByText := true, laidKinds := [.data, .data, .widerDeep, .widerDeep, .data, .data, .data, .data, .data, .sentinel, .sentinel, .data, .sentinel, .sentinel, .pinned, .pinned], laidTests := true, laidLooks := .later }
def FnNumberCardSaid : Prop := Claim7.holds Tryd.pinned (.plain (OpenSpec.ofChange fnNumberSpec)) fnNumberCard

/-- THE TIED CARD OF 'laws.FnNumberDict'. -/
def fnNumberDictCard : Claim7 := { stood := { row := fnNumberDictRow, standIns := [], harness := (true, "90c57a3e5163f72af7e4992c6be433062723edc18d9696724e2d771c1e3870d7"), looks := true }, kinds := [], alts := [], laidByText := true, laidKinds := [.data, .data, .widerDeep, .widerDeep, .data, .data, .data, .data, .data, .sentinel, .sentinel, .data, .sentinel, .sentinel, .pinned, .pinned], laidTests := true, laidLooks := .later }
def FnNumberDictCardSaid : Prop := Claim7.holds Tryd.pinned (.plain (OpenSpec.ofChange fnNumberDictSpec)) fnNumberDictCard

/-- THE SECOND FORM's CARD OF 'laws.FnNumber'. -/
def fnNumberUptoCard : Claim7 := { stood := { row := fnNumberUptoRow, standIns := [], harness := (true, "90c57a3e5163f72af7e4992c6be433062723edc18d9696724e2d771c1e3870d7"), looks := true }, kinds := [], alts := [], laidByText := true, laidKinds := [.data, .data, .widerDeep, .widerDeep, .data, .data, .data, .data, .data, .sentinel, .sentinel, .data, .sentinel, .sentinel, .pinned, .pinned], laidTests := true, laidLooks := .later }
def FnNumberUptoCardSaid : Prop := Claim7.holds Tryd.pinned (.plain (OpenSpec.upto fnNumberSpec)) fnNumberUptoCard

/-- THE SECOND FORM's CARD OF 'laws.FnNumberDict'. -/
def fnNumberDictUptoCard : Claim7 := { stood := { row := fnNumberDictUptoRow, standIns := [], harness := (true, "90c57a3e5163f72af7e4992c6be433062723edc18d9696724e2d771c1e3870d7"), looks := true }, kinds := [], alts := [], laidByText := true, laidKinds := [.data, .data, .widerDeep, .widerDeep, .data, .data, .data, .data, .data, .sentinel, .sentinel, .data, .sentinel, .sentinel, .pinned, .pinned], laidTests := true, laidLooks := .later }
def FnNumberDictUptoCardSaid : Prop := Claim7.holds Tryd.pinned (.plain (OpenSpec.upto fnNumberDictSpec)) fnNumberDictUptoCard
end Rows
end Go.Proofs.YtgcpabmbcjlbhaaDoor
