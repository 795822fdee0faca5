/-
  NARROWER THAN 'FOR EVERY INPUT', by the rows' own cells (each row's printed sentence says how): FnCheckTxn: loops · FnOverlapsFlat: loops.
  DERIVED. THE GIVEN ROWS OF THIS SEAT. 7 by the template 'for every input the law returns true; each argument reads behind the call as it read before'; 0 by the template 'total and deterministic' (their statements: YtlnihndjepjagaaTotals.lean).
  GIVEN WITH THE SEED: the statements are not yours to turn. If you find one false, say at which input.
  Laid BY PROGRAM, IN A SANDBOX (cutbox-rows.mjs): the forced cells as the released guide's own fill.sh prints them over the translation a246dfa9fe131c1b… (all of the seat's roots in one cut). By AI agents, Wed Nov 11 2026. No macro, syntax, notation, axiom, sorry.
-/
import Derived.Test.YtlnihndjepjagaaChecked
import GoSem.Claim
import GoSem.ClaimJoined
import GoSem.ClaimMapViews
import Derived.JoinedTies
import Derived.KernelRfl
namespace Go.Proofs.Ytlnihndjepjagaa
/- THE CELL 'sum', in the pinned program and in every row, IS THE sha256 OF THE DUMP (.gsa) THAT YtlnihndjepjagaaProg.lean LOADS. Nothing in Lean hashes anything: it is a label: what it is worth is what the hold of that sum in a sandbox is worth. -/
noncomputable def Try.pinned : Pinned := { name := "ytlnihndjepjagaa", sum := "a246dfa9fe131c1b399bf7a0683a84950cfe34202f9400435eebb20523791372", checked := Try.checked }
namespace Rows
def none {H : Type} : Left H := { results := [], args := [] }

/-- 'laws.FnCheckTxn': WHATEVER THE INPUT: true; the input reads as it did. -/
def fnCheckTxnSpec : ChangeSpec := { name := "fnCheckTxn", fn := fun _ => fun
  | [d1, d2] => { results := [.lit (.bool true)], args := [d1, d2] }
  | _ => none }
def fnCheckTxnRow : OpenClaim := { program := "ytlnihndjepjagaa", sum := "a246dfa9fe131c1b399bf7a0683a84950cfe34202f9400435eebb20523791372", func := "pub-stadtholder/laws.FnCheckTxn", spec := "fnCheckTxn", unfollowed := true, recurses := true, loops := true, apart := false }
def FnCheckTxnSaid : Prop := fnCheckTxnRow.holds Try.pinned (OpenSpec.ofChange fnCheckTxnSpec)

/-- ITS FALSE NEIGHBOUR: 'it returns false'. Refute it at one input. -/
def fnCheckTxnWrong : ChangeSpec := { name := "fnCheckTxn", fn := fun _ => fun
  | [d1, d2] => { results := [.lit (.bool false)], args := [d1, d2] }
  | _ => none }
def FnCheckTxnWrongFalsely : Prop := fnCheckTxnRow.holds Try.pinned (OpenSpec.ofChange fnCheckTxnWrong)

/-- 'laws.FnOverlapsFlat': WHATEVER THE INPUT: true; the input reads as it did. -/
def fnOverlapsFlatSpec : ChangeSpec := { name := "fnOverlapsFlat", fn := fun _ => fun
  | [d1, d2] => { results := [.lit (.bool true)], args := [d1, d2] }
  | _ => none }
def fnOverlapsFlatRow : OpenClaim := { program := "ytlnihndjepjagaa", sum := "a246dfa9fe131c1b399bf7a0683a84950cfe34202f9400435eebb20523791372", func := "pub-stadtholder/laws.FnOverlapsFlat", spec := "fnOverlapsFlat", unfollowed := true, recurses := true, loops := true, apart := false }
def FnOverlapsFlatSaid : Prop := fnOverlapsFlatRow.holds Try.pinned (OpenSpec.ofChange fnOverlapsFlatSpec)

/-- ITS FALSE NEIGHBOUR: 'it returns false'. Refute it at one input. -/
def fnOverlapsFlatWrong : ChangeSpec := { name := "fnOverlapsFlat", fn := fun _ => fun
  | [d1, d2] => { results := [.lit (.bool false)], args := [d1, d2] }
  | _ => none }
def FnOverlapsFlatWrongFalsely : Prop := fnOverlapsFlatRow.holds Try.pinned (OpenSpec.ofChange fnOverlapsFlatWrong)

/-- 'laws.FnAuthBoth': WHATEVER THE INPUT: true; the input reads as it did. -/
def fnAuthBothSpec : ChangeSpec := { name := "fnAuthBoth", fn := fun _ => fun
  | [d1, d2, d3, d4] => { results := [.lit (.bool true)], args := [d1, d2, d3, d4] }
  | _ => none }
def fnAuthBothRow : OpenClaim := { program := "ytlnihndjepjagaa", sum := "a246dfa9fe131c1b399bf7a0683a84950cfe34202f9400435eebb20523791372", func := "pub-stadtholder/laws.FnAuthBoth", spec := "fnAuthBoth", unfollowed := true, recurses := true, apart := false }
def FnAuthBothSaid : Prop := fnAuthBothRow.holds Try.pinned (OpenSpec.ofChange fnAuthBothSpec)

/-- ITS FALSE NEIGHBOUR: 'it returns false'. Refute it at one input. -/
def fnAuthBothWrong : ChangeSpec := { name := "fnAuthBoth", fn := fun _ => fun
  | [d1, d2, d3, d4] => { results := [.lit (.bool false)], args := [d1, d2, d3, d4] }
  | _ => none }
def FnAuthBothWrongFalsely : Prop := fnAuthBothRow.holds Try.pinned (OpenSpec.ofChange fnAuthBothWrong)

/-- 'laws.FnAuthWider': WHATEVER THE INPUT: true; the input reads as it did. -/
def fnAuthWiderSpec : ChangeSpec := { name := "fnAuthWider", fn := fun _ => fun
  | [d1, d2, d3, d4, d5] => { results := [.lit (.bool true)], args := [d1, d2, d3, d4, d5] }
  | _ => none }
def fnAuthWiderRow : OpenClaim := { program := "ytlnihndjepjagaa", sum := "a246dfa9fe131c1b399bf7a0683a84950cfe34202f9400435eebb20523791372", func := "pub-stadtholder/laws.FnAuthWider", spec := "fnAuthWider", unfollowed := true, recurses := true, apart := false }
def FnAuthWiderSaid : Prop := fnAuthWiderRow.holds Try.pinned (OpenSpec.ofChange fnAuthWiderSpec)

/-- ITS FALSE NEIGHBOUR: 'it returns false'. Refute it at one input. -/
def fnAuthWiderWrong : ChangeSpec := { name := "fnAuthWider", fn := fun _ => fun
  | [d1, d2, d3, d4, d5] => { results := [.lit (.bool false)], args := [d1, d2, d3, d4, d5] }
  | _ => none }
def FnAuthWiderWrongFalsely : Prop := fnAuthWiderRow.holds Try.pinned (OpenSpec.ofChange fnAuthWiderWrong)

/-- 'laws.FnTreeFind': WHATEVER THE INPUT: true; the input reads as it did. -/
def fnTreeFindSpec : ChangeSpec := { name := "fnTreeFind", fn := fun _ => fun
  | [d1, d2, d3] => { results := [.lit (.bool true)], args := [d1, d2, d3] }
  | _ => none }
def fnTreeFindRow : OpenClaim := { program := "ytlnihndjepjagaa", sum := "a246dfa9fe131c1b399bf7a0683a84950cfe34202f9400435eebb20523791372", func := "pub-stadtholder/laws.FnTreeFind", spec := "fnTreeFind", unfollowed := true, recurses := true, apart := false }
def FnTreeFindSaid : Prop := fnTreeFindRow.holds Try.pinned (OpenSpec.ofChange fnTreeFindSpec)

/-- ITS FALSE NEIGHBOUR: 'it returns false'. Refute it at one input. -/
def fnTreeFindWrong : ChangeSpec := { name := "fnTreeFind", fn := fun _ => fun
  | [d1, d2, d3] => { results := [.lit (.bool false)], args := [d1, d2, d3] }
  | _ => none }
def FnTreeFindWrongFalsely : Prop := fnTreeFindRow.holds Try.pinned (OpenSpec.ofChange fnTreeFindWrong)

/-- 'laws.FnTreeUnion': WHATEVER THE INPUT: true; the input reads as it did. -/
def fnTreeUnionSpec : ChangeSpec := { name := "fnTreeUnion", fn := fun _ => fun
  | [d1, d2, d3, d4] => { results := [.lit (.bool true)], args := [d1, d2, d3, d4] }
  | _ => none }
def fnTreeUnionRow : OpenClaim := { program := "ytlnihndjepjagaa", sum := "a246dfa9fe131c1b399bf7a0683a84950cfe34202f9400435eebb20523791372", func := "pub-stadtholder/laws.FnTreeUnion", spec := "fnTreeUnion", unfollowed := true, recurses := true, apart := false }
def FnTreeUnionSaid : Prop := fnTreeUnionRow.holds Try.pinned (OpenSpec.ofChange fnTreeUnionSpec)

/-- ITS FALSE NEIGHBOUR: 'it returns false'. Refute it at one input. -/
def fnTreeUnionWrong : ChangeSpec := { name := "fnTreeUnion", fn := fun _ => fun
  | [d1, d2, d3, d4] => { results := [.lit (.bool false)], args := [d1, d2, d3, d4] }
  | _ => none }
def FnTreeUnionWrongFalsely : Prop := fnTreeUnionRow.holds Try.pinned (OpenSpec.ofChange fnTreeUnionWrong)

/-- 'laws.FnTreeVisit': WHATEVER THE INPUT: true; the input reads as it did. -/
def fnTreeVisitSpec : ChangeSpec := { name := "fnTreeVisit", fn := fun _ => fun
  | [d1, d2, d3, d4] => { results := [.lit (.bool true)], args := [d1, d2, d3, d4] }
  | _ => none }
def fnTreeVisitRow : OpenClaim := { program := "ytlnihndjepjagaa", sum := "a246dfa9fe131c1b399bf7a0683a84950cfe34202f9400435eebb20523791372", func := "pub-stadtholder/laws.FnTreeVisit", spec := "fnTreeVisit", unfollowed := true, recurses := true, apart := false }
def FnTreeVisitSaid : Prop := fnTreeVisitRow.holds Try.pinned (OpenSpec.ofChange fnTreeVisitSpec)

/-- ITS FALSE NEIGHBOUR: 'it returns false'. Refute it at one input. -/
def fnTreeVisitWrong : ChangeSpec := { name := "fnTreeVisit", fn := fun _ => fun
  | [d1, d2, d3, d4] => { results := [.lit (.bool false)], args := [d1, d2, d3, d4] }
  | _ => none }
def FnTreeVisitWrongFalsely : Prop := fnTreeVisitRow.holds Try.pinned (OpenSpec.ofChange fnTreeVisitWrong)

/- THE SECOND FORM. 'bulk': how many values and letters a reading holds, each counted each time it is reached (what is shared counts as often as it is met; a slice's spare places count too). A statement '..UptoSaid' is the law's where the arguments, and the package variables that the reading takes, are together of bulk at most 1048576: NARROWER than '..Said'. Prove '..Said' where nothing that the law and all that it calls make is longer than what came in: it says more and counts as full. Else prove '..UptoSaid'. A law counts once. -/
mutual
def uptoBulk {H : Type} : DataW H → Nat
  | .lit (.string bytes) => bytes.length + 1
  | .lit _ => 1
  | .nil => 1
  | .ptr d => uptoBulk d + 1
  | .slice elems spare => uptoBulkAll elems + uptoBulkAll spare + 1
  | .agg parts => uptoBulkAll parts + 1
  | .iface _ d => uptoBulk d + 1
  | .map entries => uptoBulkEntries entries + 1
  | .held _ => 1
def uptoBulkAll {H : Type} : List (DataW H) → Nat
  | [] => 0
  | d :: r => uptoBulk d + uptoBulkAll r
def uptoBulkEntries {H : Type} : List (Lit × DataW H) → Nat
  | [] => 0
  | x :: r => uptoBulkEntry x + uptoBulkEntries r
def uptoBulkEntry {H : Type} : Lit × DataW H → Nat
  | (.string bytes, d) => bytes.length + uptoBulk d + 1
  | (_, d) => uptoBulk d + 1
 end
def uptoSmall : (H : Type) → List (DataW H) → Bool := fun _ ds => decide (uptoBulkAll ds ≤ 1048576)
def OpenSpec.upto (s : _root_.Go.ChangeSpec) : _root_.Go.OpenSpec := { _root_.Go.OpenSpec.ofChange s with cond := some uptoSmall }

/-- 'laws.FnCheckTxn', WHERE WHAT IT READS IS OF BULK AT MOST 1048576: true; the input reads as it did. -/
def fnCheckTxnUptoRow : OpenClaim := { program := "ytlnihndjepjagaa", sum := "a246dfa9fe131c1b399bf7a0683a84950cfe34202f9400435eebb20523791372", func := "pub-stadtholder/laws.FnCheckTxn", spec := "fnCheckTxn", unfollowed := true, recurses := true, loops := true, apart := false, narrowed := true }
def FnCheckTxnUptoSaid : Prop := fnCheckTxnUptoRow.holds Try.pinned (OpenSpec.upto fnCheckTxnSpec)

/-- 'laws.FnOverlapsFlat', WHERE WHAT IT READS IS OF BULK AT MOST 1048576: true; the input reads as it did. -/
def fnOverlapsFlatUptoRow : OpenClaim := { program := "ytlnihndjepjagaa", sum := "a246dfa9fe131c1b399bf7a0683a84950cfe34202f9400435eebb20523791372", func := "pub-stadtholder/laws.FnOverlapsFlat", spec := "fnOverlapsFlat", unfollowed := true, recurses := true, loops := true, apart := false, narrowed := true }
def FnOverlapsFlatUptoSaid : Prop := fnOverlapsFlatUptoRow.holds Try.pinned (OpenSpec.upto fnOverlapsFlatSpec)

/-- 'laws.FnAuthBoth', WHERE WHAT IT READS IS OF BULK AT MOST 1048576: true; the input reads as it did. -/
def fnAuthBothUptoRow : OpenClaim := { program := "ytlnihndjepjagaa", sum := "a246dfa9fe131c1b399bf7a0683a84950cfe34202f9400435eebb20523791372", func := "pub-stadtholder/laws.FnAuthBoth", spec := "fnAuthBoth", unfollowed := true, recurses := true, apart := false, narrowed := true }
def FnAuthBothUptoSaid : Prop := fnAuthBothUptoRow.holds Try.pinned (OpenSpec.upto fnAuthBothSpec)

/-- 'laws.FnAuthWider', WHERE WHAT IT READS IS OF BULK AT MOST 1048576: true; the input reads as it did. -/
def fnAuthWiderUptoRow : OpenClaim := { program := "ytlnihndjepjagaa", sum := "a246dfa9fe131c1b399bf7a0683a84950cfe34202f9400435eebb20523791372", func := "pub-stadtholder/laws.FnAuthWider", spec := "fnAuthWider", unfollowed := true, recurses := true, apart := false, narrowed := true }
def FnAuthWiderUptoSaid : Prop := fnAuthWiderUptoRow.holds Try.pinned (OpenSpec.upto fnAuthWiderSpec)

/-- 'laws.FnTreeFind', WHERE WHAT IT READS IS OF BULK AT MOST 1048576: true; the input reads as it did. -/
def fnTreeFindUptoRow : OpenClaim := { program := "ytlnihndjepjagaa", sum := "a246dfa9fe131c1b399bf7a0683a84950cfe34202f9400435eebb20523791372", func := "pub-stadtholder/laws.FnTreeFind", spec := "fnTreeFind", unfollowed := true, recurses := true, apart := false, narrowed := true }
def FnTreeFindUptoSaid : Prop := fnTreeFindUptoRow.holds Try.pinned (OpenSpec.upto fnTreeFindSpec)

/-- 'laws.FnTreeUnion', WHERE WHAT IT READS IS OF BULK AT MOST 1048576: true; the input reads as it did. -/
def fnTreeUnionUptoRow : OpenClaim := { program := "ytlnihndjepjagaa", sum := "a246dfa9fe131c1b399bf7a0683a84950cfe34202f9400435eebb20523791372", func := "pub-stadtholder/laws.FnTreeUnion", spec := "fnTreeUnion", unfollowed := true, recurses := true, apart := false, narrowed := true }
def FnTreeUnionUptoSaid : Prop := fnTreeUnionUptoRow.holds Try.pinned (OpenSpec.upto fnTreeUnionSpec)

/-- 'laws.FnTreeVisit', WHERE WHAT IT READS IS OF BULK AT MOST 1048576: true; the input reads as it did. -/
def fnTreeVisitUptoRow : OpenClaim := { program := "ytlnihndjepjagaa", sum := "a246dfa9fe131c1b399bf7a0683a84950cfe34202f9400435eebb20523791372", func := "pub-stadtholder/laws.FnTreeVisit", spec := "fnTreeVisit", unfollowed := true, recurses := true, apart := false, narrowed := true }
def FnTreeVisitUptoSaid : Prop := fnTreeVisitUptoRow.holds Try.pinned (OpenSpec.upto fnTreeVisitSpec)

end Rows
end Go.Proofs.Ytlnihndjepjagaa
