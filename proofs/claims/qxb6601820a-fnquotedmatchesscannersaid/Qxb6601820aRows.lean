/-
  No cell of these rows narrows 'for every input' (looked for: loops, veiled, ifaces, maps, wideKeys, modest, calm, conditions, laid).
  DERIVED. THE GIVEN ROWS OF THIS SEAT. 4 by the template 'for every input the law returns true; each argument reads behind the call as it read before'; 0 by the template 'total and deterministic' (their statements: Qxb6601820aTotals.lean).
  GIVEN WITH THE SEED: the statements are not yours to turn. If you find one false, say at which input.
  Laid BY PROGRAM, IN A SANDBOX (cutbox-rows.mjs): the forced cells as the released guide's own fill.sh prints them over the translation 6f50725519af1e42… (all of the seat's roots in one cut). By AI agents, Wed Nov 11 2026. No macro, syntax, notation, axiom, sorry.
-/
import Derived.Test.Qxb6601820aChecked
import GoSem.Claim
import GoSem.ClaimJoined
import GoSem.ClaimMapViews
import Derived.JoinedTies
import Derived.KernelRfl
namespace Go.Proofs.Qxb6601820a
/- THE CELL 'sum', in the pinned program and in every row, IS THE sha256 OF THE DUMP (.gsa) THAT Qxb6601820aProg.lean LOADS. Nothing in Lean hashes anything: it is a label: what it is worth is what the hold of that sum in a sandbox is worth. -/
noncomputable def Try.pinned : Pinned := { name := "qxb6601820a", sum := "6f50725519af1e42aa4fea64d81cfebb4eb7eb297d50fbbf4567ed88aa000e0a", checked := Try.checked }
namespace Rows
def none {H : Type} : Left H := { results := [], args := [] }

/-- 'zzlaws_internal_postgres_b1.FnEndsReadsOnlyTheFirstThreeTokens': WHATEVER THE INPUT: true; the input reads as it did. -/
def fnEndsReadsOnlyTheFirstThreeTokensSpec : ChangeSpec := { name := "fnEndsReadsOnlyTheFirstThreeTokens", fn := fun _ => fun
  | [d1, d2, d3, d4, d5, d6, d7] => { results := [.lit (.bool true)], args := [d1, d2, d3, d4, d5, d6, d7] }
  | _ => none }
def fnEndsReadsOnlyTheFirstThreeTokensRow : OpenClaim := { program := "qxb6601820a", sum := "6f50725519af1e42aa4fea64d81cfebb4eb7eb297d50fbbf4567ed88aa000e0a", func := "example.com/concordat/concordat/zzlaws_internal_postgres_b1.FnEndsReadsOnlyTheFirstThreeTokens", spec := "fnEndsReadsOnlyTheFirstThreeTokens", apart := false }
def FnEndsReadsOnlyTheFirstThreeTokensSaid : Prop := fnEndsReadsOnlyTheFirstThreeTokensRow.holds Try.pinned (OpenSpec.ofChange fnEndsReadsOnlyTheFirstThreeTokensSpec)

/-- ITS FALSE NEIGHBOUR: 'it returns false'. Refute it at one input. -/
def fnEndsReadsOnlyTheFirstThreeTokensWrong : ChangeSpec := { name := "fnEndsReadsOnlyTheFirstThreeTokens", fn := fun _ => fun
  | [d1, d2, d3, d4, d5, d6, d7] => { results := [.lit (.bool false)], args := [d1, d2, d3, d4, d5, d6, d7] }
  | _ => none }
def FnEndsReadsOnlyTheFirstThreeTokensWrongFalsely : Prop := fnEndsReadsOnlyTheFirstThreeTokensRow.holds Try.pinned (OpenSpec.ofChange fnEndsReadsOnlyTheFirstThreeTokensWrong)

/-- 'zzlaws_internal_postgres_b1.FnQuotedMatchesScanner': WHATEVER THE INPUT: true; the input reads as it did. -/
def fnQuotedMatchesScannerSpec : ChangeSpec := { name := "fnQuotedMatchesScanner", fn := fun _ => fun
  | [d1, d2, d3, d4] => { results := [.lit (.bool true)], args := [d1, d2, d3, d4] }
  | _ => none }
def fnQuotedMatchesScannerRow : OpenClaim := { program := "qxb6601820a", sum := "6f50725519af1e42aa4fea64d81cfebb4eb7eb297d50fbbf4567ed88aa000e0a", func := "example.com/concordat/concordat/zzlaws_internal_postgres_b1.FnQuotedMatchesScanner", spec := "fnQuotedMatchesScanner", inPlace := ["internal/bytealg.IndexByteString", "internal/bytealg.IndexString"], named := ["internal/bytealg.MaxLen"], apart := false }
def FnQuotedMatchesScannerSaid : Prop := fnQuotedMatchesScannerRow.holds Try.pinned (OpenSpec.ofChange fnQuotedMatchesScannerSpec)

/-- ITS FALSE NEIGHBOUR: 'it returns false'. Refute it at one input. -/
def fnQuotedMatchesScannerWrong : ChangeSpec := { name := "fnQuotedMatchesScanner", fn := fun _ => fun
  | [d1, d2, d3, d4] => { results := [.lit (.bool false)], args := [d1, d2, d3, d4] }
  | _ => none }
def FnQuotedMatchesScannerWrongFalsely : Prop := fnQuotedMatchesScannerRow.holds Try.pinned (OpenSpec.ofChange fnQuotedMatchesScannerWrong)

/-- 'zzlaws_internal_postgres_b1.FnQuotedEndsAfterAQuoteOrAtTheEnd': WHATEVER THE INPUT: true; the input reads as it did. -/
def fnQuotedEndsAfterAQuoteOrAtTheEndSpec : ChangeSpec := { name := "fnQuotedEndsAfterAQuoteOrAtTheEnd", fn := fun _ => fun
  | [d1, d2, d3, d4] => { results := [.lit (.bool true)], args := [d1, d2, d3, d4] }
  | _ => none }
def fnQuotedEndsAfterAQuoteOrAtTheEndRow : OpenClaim := { program := "qxb6601820a", sum := "6f50725519af1e42aa4fea64d81cfebb4eb7eb297d50fbbf4567ed88aa000e0a", func := "example.com/concordat/concordat/zzlaws_internal_postgres_b1.FnQuotedEndsAfterAQuoteOrAtTheEnd", spec := "fnQuotedEndsAfterAQuoteOrAtTheEnd", inPlace := ["internal/bytealg.IndexByteString", "internal/bytealg.IndexString"], named := ["internal/bytealg.MaxLen"], apart := false }
def FnQuotedEndsAfterAQuoteOrAtTheEndSaid : Prop := fnQuotedEndsAfterAQuoteOrAtTheEndRow.holds Try.pinned (OpenSpec.ofChange fnQuotedEndsAfterAQuoteOrAtTheEndSpec)

/-- ITS FALSE NEIGHBOUR: 'it returns false'. Refute it at one input. -/
def fnQuotedEndsAfterAQuoteOrAtTheEndWrong : ChangeSpec := { name := "fnQuotedEndsAfterAQuoteOrAtTheEnd", fn := fun _ => fun
  | [d1, d2, d3, d4] => { results := [.lit (.bool false)], args := [d1, d2, d3, d4] }
  | _ => none }
def FnQuotedEndsAfterAQuoteOrAtTheEndWrongFalsely : Prop := fnQuotedEndsAfterAQuoteOrAtTheEndRow.holds Try.pinned (OpenSpec.ofChange fnQuotedEndsAfterAQuoteOrAtTheEndWrong)

/-- 'zzlaws_internal_postgres_b1.FnQuotedDependsOnlyOnTheRest': WHATEVER THE INPUT: true; the input reads as it did. -/
def fnQuotedDependsOnlyOnTheRestSpec : ChangeSpec := { name := "fnQuotedDependsOnlyOnTheRest", fn := fun _ => fun
  | [d1, d2, d3, d4, d5] => { results := [.lit (.bool true)], args := [d1, d2, d3, d4, d5] }
  | _ => none }
def fnQuotedDependsOnlyOnTheRestRow : OpenClaim := { program := "qxb6601820a", sum := "6f50725519af1e42aa4fea64d81cfebb4eb7eb297d50fbbf4567ed88aa000e0a", func := "example.com/concordat/concordat/zzlaws_internal_postgres_b1.FnQuotedDependsOnlyOnTheRest", spec := "fnQuotedDependsOnlyOnTheRest", inPlace := ["internal/bytealg.IndexByteString", "internal/bytealg.IndexString"], named := ["internal/bytealg.MaxLen"], apart := false }
def FnQuotedDependsOnlyOnTheRestSaid : Prop := fnQuotedDependsOnlyOnTheRestRow.holds Try.pinned (OpenSpec.ofChange fnQuotedDependsOnlyOnTheRestSpec)

/-- ITS FALSE NEIGHBOUR: 'it returns false'. Refute it at one input. -/
def fnQuotedDependsOnlyOnTheRestWrong : ChangeSpec := { name := "fnQuotedDependsOnlyOnTheRest", fn := fun _ => fun
  | [d1, d2, d3, d4, d5] => { results := [.lit (.bool false)], args := [d1, d2, d3, d4, d5] }
  | _ => none }
def FnQuotedDependsOnlyOnTheRestWrongFalsely : Prop := fnQuotedDependsOnlyOnTheRestRow.holds Try.pinned (OpenSpec.ofChange fnQuotedDependsOnlyOnTheRestWrong)

end Rows
end Go.Proofs.Qxb6601820a
