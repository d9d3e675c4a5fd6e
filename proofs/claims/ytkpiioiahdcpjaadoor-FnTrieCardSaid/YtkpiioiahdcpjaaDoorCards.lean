/-
  DERIVED. GIVEN WITH THE SEED: THE CARDS: each row of YtkpiioiahdcpjaaDoorRows.lean that lists a variable, with what it lists TIED to the program's text (the seventh form; the later family's looks); each row that meets fmt, with fmt's text TOLD by the authors' own Lean function (tested against real Go, not proved from fmt's source: count such statements apart). THE CARD IS WHAT COUNTS. Prove the row's statement (the work); the ties are given (YtkpiioiahdcpjaaDoorTie.lean); close each card by the builder's one call (the guide's Derived/Test/ToyasCard.lean, 'card_holds'). Laid BY PROGRAM, IN A SANDBOX (cutbox-door.mjs). By AI agents, Wed Nov 11 2026. No macro, syntax, notation, axiom, sorry.
-/
import Derived.Test.YtkpiioiahdcpjaaDoorRows
import GoSem.ClaimSeven
namespace Go.Proofs.YtkpiioiahdcpjaaDoor
namespace Rows

/-- THE TIED CARD OF 'laws.FnTrie'. -/
def fnTrieCard : Claim7 := { stood := { row := fnTrieRow, standIns := [], harness := (true, "ab890f730e4dd927c06d930d3d3f17985edfd34bd820f7c3700922f886c4abdb"), looks := true }, kinds := [], alts := [], laidByText := true, laidKinds := [.sentinel], laidTests := true, laidLooks := .later }
def FnTrieCardSaid : Prop := Claim7.holds Tryd.pinned (.plain (OpenSpec.ofChange fnTrieSpec)) fnTrieCard

/-- THE SECOND FORM's CARD OF 'laws.FnTrie'. -/
def fnTrieUptoCard : Claim7 := { stood := { row := fnTrieUptoRow, standIns := [], harness := (true, "ab890f730e4dd927c06d930d3d3f17985edfd34bd820f7c3700922f886c4abdb"), looks := true }, kinds := [], alts := [], laidByText := true, laidKinds := [.sentinel], laidTests := true, laidLooks := .later }
def FnTrieUptoCardSaid : Prop := Claim7.holds Tryd.pinned (.plain (OpenSpec.upto fnTrieSpec)) fnTrieUptoCard
end Rows
end Go.Proofs.YtkpiioiahdcpjaaDoor
