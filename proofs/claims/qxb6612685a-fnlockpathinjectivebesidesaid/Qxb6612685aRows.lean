/-
  No cell of these rows narrows 'for every input' (looked for: loops, veiled, ifaces, maps, wideKeys, modest, calm, conditions, laid).
  DERIVED. THE GIVEN ROWS OF THIS SEAT. 3 by the template 'for every input the law returns true; each argument reads behind the call as it read before'; 0 by the template 'total and deterministic' (their statements: Qxb6612685aTotals.lean).
  GIVEN WITH THE SEED: the statements are not yours to turn. If you find one false, say at which input.
  Laid BY PROGRAM, IN A SANDBOX (cutbox-rows.mjs): the forced cells as the released guide's own fill.sh prints them over the translation 0718ad0a20bb3e35… (all of the seat's roots in one cut). By AI agents, Wed Nov 11 2026. No macro, syntax, notation, axiom, sorry.
-/
import Derived.Test.Qxb6612685aChecked
import GoSem.Claim
import GoSem.ClaimJoined
import GoSem.ClaimMapViews
import Derived.JoinedTies
import Derived.KernelRfl
namespace Go.Proofs.Qxb6612685a
/- THE CELL 'sum', in the pinned program and in every row, IS THE sha256 OF THE DUMP (.gsa) THAT Qxb6612685aProg.lean LOADS. Nothing in Lean hashes anything: it is a label: what it is worth is what the hold of that sum in a sandbox is worth. -/
noncomputable def Try.pinned : Pinned := { name := "qxb6612685a", sum := "0718ad0a20bb3e35bd291f876e7147649313a198bceff775c0920b163940fc05", checked := Try.checked }
namespace Rows
def none {H : Type} : Left H := { results := [], args := [] }

/-- 'zzlaws_internal_store_b1.FnSessionsDirLexical': WHATEVER THE INPUT: true; the input reads as it did. -/
def fnSessionsDirLexicalSpec : ChangeSpec := { name := "fnSessionsDirLexical", fn := fun _ => fun
  | [d1, d2] => { results := [.lit (.bool true)], args := [d1, d2] }
  | _ => none }
def fnSessionsDirLexicalRow : OpenClaim := { program := "qxb6612685a", sum := "0718ad0a20bb3e35bd291f876e7147649313a198bceff775c0920b163940fc05", func := "example.com/tidemark/tidemark/zzlaws_internal_store_b1.FnSessionsDirLexical", spec := "fnSessionsDirLexical", inPlace := ["internal/abi.NoEscape", "internal/bytealg.MakeNoZero", "internal/bytealg.IndexByteString"], apart := false }
def FnSessionsDirLexicalSaid : Prop := fnSessionsDirLexicalRow.holds Try.pinned (OpenSpec.ofChange fnSessionsDirLexicalSpec)

/-- ITS FALSE NEIGHBOUR: 'it returns false'. Refute it at one input. -/
def fnSessionsDirLexicalWrong : ChangeSpec := { name := "fnSessionsDirLexical", fn := fun _ => fun
  | [d1, d2] => { results := [.lit (.bool false)], args := [d1, d2] }
  | _ => none }
def FnSessionsDirLexicalWrongFalsely : Prop := fnSessionsDirLexicalRow.holds Try.pinned (OpenSpec.ofChange fnSessionsDirLexicalWrong)

/-- 'zzlaws_internal_store_b1.FnLockPathInjectiveBeside': WHATEVER THE INPUT: true; the input reads as it did. -/
def fnLockPathInjectiveBesideSpec : ChangeSpec := { name := "fnLockPathInjectiveBeside", fn := fun _ => fun
  | [d1, d2] => { results := [.lit (.bool true)], args := [d1, d2] }
  | _ => none }
def fnLockPathInjectiveBesideRow : OpenClaim := { program := "qxb6612685a", sum := "0718ad0a20bb3e35bd291f876e7147649313a198bceff775c0920b163940fc05", func := "example.com/tidemark/tidemark/zzlaws_internal_store_b1.FnLockPathInjectiveBeside", spec := "fnLockPathInjectiveBeside", apart := false }
def FnLockPathInjectiveBesideSaid : Prop := fnLockPathInjectiveBesideRow.holds Try.pinned (OpenSpec.ofChange fnLockPathInjectiveBesideSpec)

/-- ITS FALSE NEIGHBOUR: 'it returns false'. Refute it at one input. -/
def fnLockPathInjectiveBesideWrong : ChangeSpec := { name := "fnLockPathInjectiveBeside", fn := fun _ => fun
  | [d1, d2] => { results := [.lit (.bool false)], args := [d1, d2] }
  | _ => none }
def FnLockPathInjectiveBesideWrongFalsely : Prop := fnLockPathInjectiveBesideRow.holds Try.pinned (OpenSpec.ofChange fnLockPathInjectiveBesideWrong)

/-- 'zzlaws_internal_store_b1.FnLockPathSplit': WHATEVER THE INPUT: true; the input reads as it did. -/
def fnLockPathSplitSpec : ChangeSpec := { name := "fnLockPathSplit", fn := fun _ => fun
  | [d1, d2] => { results := [.lit (.bool true)], args := [d1, d2] }
  | _ => none }
def fnLockPathSplitRow : OpenClaim := { program := "qxb6612685a", sum := "0718ad0a20bb3e35bd291f876e7147649313a198bceff775c0920b163940fc05", func := "example.com/tidemark/tidemark/zzlaws_internal_store_b1.FnLockPathSplit", spec := "fnLockPathSplit", apart := false }
def FnLockPathSplitSaid : Prop := fnLockPathSplitRow.holds Try.pinned (OpenSpec.ofChange fnLockPathSplitSpec)

/-- ITS FALSE NEIGHBOUR: 'it returns false'. Refute it at one input. -/
def fnLockPathSplitWrong : ChangeSpec := { name := "fnLockPathSplit", fn := fun _ => fun
  | [d1, d2] => { results := [.lit (.bool false)], args := [d1, d2] }
  | _ => none }
def FnLockPathSplitWrongFalsely : Prop := fnLockPathSplitRow.holds Try.pinned (OpenSpec.ofChange fnLockPathSplitWrong)

end Rows
end Go.Proofs.Qxb6612685a
