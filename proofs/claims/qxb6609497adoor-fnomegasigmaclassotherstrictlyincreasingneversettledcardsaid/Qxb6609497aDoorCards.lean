/-
  DERIVED. GIVEN WITH THE SEED: THE CARDS: each row of Qxb6609497aDoorRows.lean that lists a variable, with what it lists TIED to the program's text (the seventh form; the later family's looks); each row that meets fmt, with fmt's text TOLD by the authors' own Lean function (tested against real Go, not proved from fmt's source: count such statements apart). THE CARD IS WHAT COUNTS. Prove the row's statement (the work); the ties are given (Qxb6609497aDoorTie.lean); close each card by the builder's one call (the guide's Derived/Test/ToyasCard.lean, 'card_holds'). Laid BY PROGRAM, IN A SANDBOX (cutbox-door.mjs). By AI agents, Wed Nov 11 2026. No macro, syntax, notation, axiom, sorry.
-/
import Derived.Test.Qxb6609497aDoorRows
import GoSem.ClaimSeven
namespace Go.Proofs.Qxb6609497aDoor
namespace Rows

/-- THE TIED CARD OF 'zzlaws_internal_oracle_b1.FnOmegaSigmaClassOtherIsIthPairSkippingSettled'. -/
def fnOmegaSigmaClassOtherIsIthPairSkippingSettledCard : Claim7 := { stood := { row := fnOmegaSigmaClassOtherIsIthPairSkippingSettledRow, standIns := [], harness := (true, "2b080da29af2db635b6e7b3dc36c1939d646163ef23d87c6226472a71d4ef4c0"), looks := true }, kinds := [], alts := [], laidByText := true, laidKinds := [.data], laidTests := true, laidLooks := .later }
def FnOmegaSigmaClassOtherIsIthPairSkippingSettledCardSaid : Prop := Claim7.holds Tryd.pinned (.plain (OpenSpec.ofChange fnOmegaSigmaClassOtherIsIthPairSkippingSettledSpec)) fnOmegaSigmaClassOtherIsIthPairSkippingSettledCard

/-- THE TIED CARD OF 'zzlaws_internal_oracle_b1.FnOmegaSigmaClassOtherStrictlyIncreasingNeverSettled'. -/
def fnOmegaSigmaClassOtherStrictlyIncreasingNeverSettledCard : Claim7 := { stood := { row := fnOmegaSigmaClassOtherStrictlyIncreasingNeverSettledRow, standIns := [], harness := (true, "2b080da29af2db635b6e7b3dc36c1939d646163ef23d87c6226472a71d4ef4c0"), looks := true }, kinds := [], alts := [], laidByText := true, laidKinds := [.data], laidTests := true, laidLooks := .later }
def FnOmegaSigmaClassOtherStrictlyIncreasingNeverSettledCardSaid : Prop := Claim7.holds Tryd.pinned (.plain (OpenSpec.ofChange fnOmegaSigmaClassOtherStrictlyIncreasingNeverSettledSpec)) fnOmegaSigmaClassOtherStrictlyIncreasingNeverSettledCard

/-- THE TIED CARD OF 'zzlaws_internal_oracle_b1.FnPsiClassSettledIsLowestLiveWithLiveQuorum'. -/
def fnPsiClassSettledIsLowestLiveWithLiveQuorumCard : Claim7 := { stood := { row := fnPsiClassSettledIsLowestLiveWithLiveQuorumRow, standIns := [], harness := (true, "2b080da29af2db635b6e7b3dc36c1939d646163ef23d87c6226472a71d4ef4c0"), looks := true }, kinds := [], alts := [], laidByText := true, laidKinds := [.data], laidTests := true, laidLooks := .later }
def FnPsiClassSettledIsLowestLiveWithLiveQuorumCardSaid : Prop := Claim7.holds Tryd.pinned (.plain (OpenSpec.ofChange fnPsiClassSettledIsLowestLiveWithLiveQuorumSpec)) fnPsiClassSettledIsLowestLiveWithLiveQuorumCard

/-- THE TIED CARD OF 'zzlaws_internal_oracle_b1.FnPsiClassSettledFollowsCrashKeepsEarlierAnswer'. -/
def fnPsiClassSettledFollowsCrashKeepsEarlierAnswerCard : Claim7 := { stood := { row := fnPsiClassSettledFollowsCrashKeepsEarlierAnswerRow, standIns := [], harness := (true, "2b080da29af2db635b6e7b3dc36c1939d646163ef23d87c6226472a71d4ef4c0"), looks := true }, kinds := [], alts := [], laidByText := true, laidKinds := [.data], laidTests := true, laidLooks := .later }
def FnPsiClassSettledFollowsCrashKeepsEarlierAnswerCardSaid : Prop := Claim7.holds Tryd.pinned (.plain (OpenSpec.ofChange fnPsiClassSettledFollowsCrashKeepsEarlierAnswerSpec)) fnPsiClassSettledFollowsCrashKeepsEarlierAnswerCard
end Rows
end Go.Proofs.Qxb6609497aDoor
