/-
  NARROWER THAN 'FOR EVERY INPUT', by the rows' own cells (each row's printed sentence says how): FnTxnKinds: loops.
  DERIVED. THE GIVEN ROWS OF THIS SEAT. 5 by the template 'for every input the law returns true; each argument reads behind the call as it read before'; 0 by the template 'total and deterministic' (their statements: YtfdnfnjmphjdnaaTotals.lean).
  GIVEN WITH THE SEED: the statements are not yours to turn. If you find one false, say at which input.
  Laid BY PROGRAM, IN A SANDBOX (cutbox-rows.mjs): the forced cells as the released guide's own fill.sh prints them over the translation 51b3adf8e2dd30e0… (all of the seat's roots in one cut). By AI agents, Wed Nov 11 2026. No macro, syntax, notation, axiom, sorry.
-/
import Derived.Test.YtfdnfnjmphjdnaaChecked
import GoSem.Claim
import GoSem.ClaimJoined
import GoSem.ClaimMapViews
import Derived.JoinedTies
import Derived.KernelRfl
namespace Go.Proofs.Ytfdnfnjmphjdnaa
/- THE CELL 'sum', in the pinned program and in every row, IS THE sha256 OF THE DUMP (.gsa) THAT YtfdnfnjmphjdnaaProg.lean LOADS. Nothing in Lean hashes anything: it is a label: what it is worth is what the hold of that sum in a sandbox is worth. -/
noncomputable def Try.pinned : Pinned := { name := "ytfdnfnjmphjdnaa", sum := "51b3adf8e2dd30e0b631e8af5e947729eeb60d574e5e69d2c2843a0efdbf4f3e", checked := Try.checked }
namespace Rows
def none {H : Type} : Left H := { results := [], args := [] }

/-- 'laws.FnRevBytes': WHATEVER THE INPUT: true; the input reads as it did. -/
def fnRevBytesSpec : ChangeSpec := { name := "fnRevBytes", fn := fun _ => fun
  | [d] => { results := [.lit (.bool true)], args := [d] }
  | _ => none }
def fnRevBytesRow : OpenClaim := { program := "ytfdnfnjmphjdnaa", sum := "51b3adf8e2dd30e0b631e8af5e947729eeb60d574e5e69d2c2843a0efdbf4f3e", func := "pub-stadtholder/laws.FnRevBytes", spec := "fnRevBytes", unfollowed := true, recurses := true, apart := false }
def FnRevBytesSaid : Prop := fnRevBytesRow.holds Try.pinned (OpenSpec.ofChange fnRevBytesSpec)

/-- ITS FALSE NEIGHBOUR: 'it returns false'. Refute it at one input. -/
def fnRevBytesWrong : ChangeSpec := { name := "fnRevBytes", fn := fun _ => fun
  | [d] => { results := [.lit (.bool false)], args := [d] }
  | _ => none }
def FnRevBytesWrongFalsely : Prop := fnRevBytesRow.holds Try.pinned (OpenSpec.ofChange fnRevBytesWrong)

/-- 'laws.FnTxnCompare': WHATEVER THE INPUT: true; the input reads as it did. -/
def fnTxnCompareSpec : ChangeSpec := { name := "fnTxnCompare", fn := fun _ => fun
  | [d1, d2] => { results := [.lit (.bool true)], args := [d1, d2] }
  | _ => none }
def fnTxnCompareRow : OpenClaim := { program := "ytfdnfnjmphjdnaa", sum := "51b3adf8e2dd30e0b631e8af5e947729eeb60d574e5e69d2c2843a0efdbf4f3e", func := "pub-stadtholder/laws.FnTxnCompare", spec := "fnTxnCompare", inPlace := ["internal/bytealg.Compare"], apart := false }
def FnTxnCompareSaid : Prop := fnTxnCompareRow.holds Try.pinned (OpenSpec.ofChange fnTxnCompareSpec)

/-- ITS FALSE NEIGHBOUR: 'it returns false'. Refute it at one input. -/
def fnTxnCompareWrong : ChangeSpec := { name := "fnTxnCompare", fn := fun _ => fun
  | [d1, d2] => { results := [.lit (.bool false)], args := [d1, d2] }
  | _ => none }
def FnTxnCompareWrongFalsely : Prop := fnTxnCompareRow.holds Try.pinned (OpenSpec.ofChange fnTxnCompareWrong)

/-- 'laws.FnTxnKinds': WHATEVER THE INPUT: true; the input reads as it did. -/
def fnTxnKindsSpec : ChangeSpec := { name := "fnTxnKinds", fn := fun _ => fun
  | [d] => { results := [.lit (.bool true)], args := [d] }
  | _ => none }
def fnTxnKindsRow : OpenClaim := { program := "ytfdnfnjmphjdnaa", sum := "51b3adf8e2dd30e0b631e8af5e947729eeb60d574e5e69d2c2843a0efdbf4f3e", func := "pub-stadtholder/laws.FnTxnKinds", spec := "fnTxnKinds", recurses := true, loops := true, apart := false }
def FnTxnKindsSaid : Prop := fnTxnKindsRow.holds Try.pinned (OpenSpec.ofChange fnTxnKindsSpec)

/-- ITS FALSE NEIGHBOUR: 'it returns false'. Refute it at one input. -/
def fnTxnKindsWrong : ChangeSpec := { name := "fnTxnKinds", fn := fun _ => fun
  | [d] => { results := [.lit (.bool false)], args := [d] }
  | _ => none }
def FnTxnKindsWrongFalsely : Prop := fnTxnKindsRow.holds Try.pinned (OpenSpec.ofChange fnTxnKindsWrong)

/-- 'laws.FnBucketBack': WHATEVER THE INPUT: true; the input reads as it did. -/
def fnBucketBackSpec : ChangeSpec := { name := "fnBucketBack", fn := fun _ => fun
  | [d1, d2] => { results := [.lit (.bool true)], args := [d1, d2] }
  | _ => none }
def fnBucketBackRow : OpenClaim := { program := "ytfdnfnjmphjdnaa", sum := "51b3adf8e2dd30e0b631e8af5e947729eeb60d574e5e69d2c2843a0efdbf4f3e", func := "pub-stadtholder/laws.FnBucketBack", spec := "fnBucketBack", unfollowed := true, recurses := true, apart := false }
def FnBucketBackSaid : Prop := fnBucketBackRow.holds Try.pinned (OpenSpec.ofChange fnBucketBackSpec)

/-- ITS FALSE NEIGHBOUR: 'it returns false'. Refute it at one input. -/
def fnBucketBackWrong : ChangeSpec := { name := "fnBucketBack", fn := fun _ => fun
  | [d1, d2] => { results := [.lit (.bool false)], args := [d1, d2] }
  | _ => none }
def FnBucketBackWrongFalsely : Prop := fnBucketBackRow.holds Try.pinned (OpenSpec.ofChange fnBucketBackWrong)

/-- 'laws.FnPagesWhole': WHATEVER THE INPUT: true; the input reads as it did. -/
def fnPagesWholeSpec : ChangeSpec := { name := "fnPagesWhole", fn := fun _ => fun
  | [d1, d2, d3, d4] => { results := [.lit (.bool true)], args := [d1, d2, d3, d4] }
  | _ => none }
def fnPagesWholeRow : OpenClaim := { program := "ytfdnfnjmphjdnaa", sum := "51b3adf8e2dd30e0b631e8af5e947729eeb60d574e5e69d2c2843a0efdbf4f3e", func := "pub-stadtholder/laws.FnPagesWhole", spec := "fnPagesWhole", unfollowed := true, recurses := true, apart := false }
def FnPagesWholeSaid : Prop := fnPagesWholeRow.holds Try.pinned (OpenSpec.ofChange fnPagesWholeSpec)

/-- ITS FALSE NEIGHBOUR: 'it returns false'. Refute it at one input. -/
def fnPagesWholeWrong : ChangeSpec := { name := "fnPagesWhole", fn := fun _ => fun
  | [d1, d2, d3, d4] => { results := [.lit (.bool false)], args := [d1, d2, d3, d4] }
  | _ => none }
def FnPagesWholeWrongFalsely : Prop := fnPagesWholeRow.holds Try.pinned (OpenSpec.ofChange fnPagesWholeWrong)

/- THE SECOND FORM. 'bulk': how many values and letters a reading holds, each counted each time it is reached (what is shared counts as often as it is met; a slice's spare places count too). A statement '..UptoSaid' is the law's where the arguments, and the package variables that the reading takes, are together of bulk at most 1048576: NARROWER than '..Said'. Prove '..Said' where nothing that the law and all that it calls make is longer than what came in: it says more and counts as full. Else prove '..UptoSaid'. A law counts once. -/
mutual
def uptoBulk {H : Type} : DataW H → Nat
  | .lit (.string bytes) => bytes.length + 1
  | .lit _ => 1
  | .nil => 1
  | .ptr d => uptoBulk d + 1
  | .slice elems spare => uptoBulkAll elems + uptoBulkAll spare + 1
  | .agg parts => uptoBulkAll parts + 1
  | .iface _ d => uptoBulk d + 1
  | .map entries => uptoBulkEntries entries + 1
  | .held _ => 1
def uptoBulkAll {H : Type} : List (DataW H) → Nat
  | [] => 0
  | d :: r => uptoBulk d + uptoBulkAll r
def uptoBulkEntries {H : Type} : List (Lit × DataW H) → Nat
  | [] => 0
  | x :: r => uptoBulkEntry x + uptoBulkEntries r
def uptoBulkEntry {H : Type} : Lit × DataW H → Nat
  | (.string bytes, d) => bytes.length + uptoBulk d + 1
  | (_, d) => uptoBulk d + 1
 end
def uptoSmall : (H : Type) → List (DataW H) → Bool := fun _ ds => decide (uptoBulkAll ds ≤ 1048576)
def OpenSpec.upto (s : _root_.Go.ChangeSpec) : _root_.Go.OpenSpec := { _root_.Go.OpenSpec.ofChange s with cond := some uptoSmall }

/-- 'laws.FnRevBytes', WHERE WHAT IT READS IS OF BULK AT MOST 1048576: true; the input reads as it did. -/
def fnRevBytesUptoRow : OpenClaim := { program := "ytfdnfnjmphjdnaa", sum := "51b3adf8e2dd30e0b631e8af5e947729eeb60d574e5e69d2c2843a0efdbf4f3e", func := "pub-stadtholder/laws.FnRevBytes", spec := "fnRevBytes", unfollowed := true, recurses := true, apart := false, narrowed := true }
def FnRevBytesUptoSaid : Prop := fnRevBytesUptoRow.holds Try.pinned (OpenSpec.upto fnRevBytesSpec)

/-- 'laws.FnTxnCompare', WHERE WHAT IT READS IS OF BULK AT MOST 1048576: true; the input reads as it did. -/
def fnTxnCompareUptoRow : OpenClaim := { program := "ytfdnfnjmphjdnaa", sum := "51b3adf8e2dd30e0b631e8af5e947729eeb60d574e5e69d2c2843a0efdbf4f3e", func := "pub-stadtholder/laws.FnTxnCompare", spec := "fnTxnCompare", inPlace := ["internal/bytealg.Compare"], apart := false, narrowed := true }
def FnTxnCompareUptoSaid : Prop := fnTxnCompareUptoRow.holds Try.pinned (OpenSpec.upto fnTxnCompareSpec)

/-- 'laws.FnTxnKinds', WHERE WHAT IT READS IS OF BULK AT MOST 1048576: true; the input reads as it did. -/
def fnTxnKindsUptoRow : OpenClaim := { program := "ytfdnfnjmphjdnaa", sum := "51b3adf8e2dd30e0b631e8af5e947729eeb60d574e5e69d2c2843a0efdbf4f3e", func := "pub-stadtholder/laws.FnTxnKinds", spec := "fnTxnKinds", recurses := true, loops := true, apart := false, narrowed := true }
def FnTxnKindsUptoSaid : Prop := fnTxnKindsUptoRow.holds Try.pinned (OpenSpec.upto fnTxnKindsSpec)

/-- 'laws.FnBucketBack', WHERE WHAT IT READS IS OF BULK AT MOST 1048576: true; the input reads as it did. -/
def fnBucketBackUptoRow : OpenClaim := { program := "ytfdnfnjmphjdnaa", sum := "51b3adf8e2dd30e0b631e8af5e947729eeb60d574e5e69d2c2843a0efdbf4f3e", func := "pub-stadtholder/laws.FnBucketBack", spec := "fnBucketBack", unfollowed := true, recurses := true, apart := false, narrowed := true }
def FnBucketBackUptoSaid : Prop := fnBucketBackUptoRow.holds Try.pinned (OpenSpec.upto fnBucketBackSpec)

/-- 'laws.FnPagesWhole', WHERE WHAT IT READS IS OF BULK AT MOST 1048576: true; the input reads as it did. -/
def fnPagesWholeUptoRow : OpenClaim := { program := "ytfdnfnjmphjdnaa", sum := "51b3adf8e2dd30e0b631e8af5e947729eeb60d574e5e69d2c2843a0efdbf4f3e", func := "pub-stadtholder/laws.FnPagesWhole", spec := "fnPagesWhole", unfollowed := true, recurses := true, apart := false, narrowed := true }
def FnPagesWholeUptoSaid : Prop := fnPagesWholeUptoRow.holds Try.pinned (OpenSpec.upto fnPagesWholeSpec)

end Rows
end Go.Proofs.Ytfdnfnjmphjdnaa
