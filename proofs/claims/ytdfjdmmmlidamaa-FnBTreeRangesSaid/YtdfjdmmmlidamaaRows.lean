/-
  No cell of these rows narrows 'for every input' (looked for: loops, veiled, ifaces, maps, wideKeys, modest, calm, conditions, laid).
  DERIVED. THE GIVEN ROWS OF THIS SEAT. 3 by the template 'for every input the law returns true; each argument reads behind the call as it read before'; 0 by the template 'total and deterministic' (their statements: YtdfjdmmmlidamaaTotals.lean).
  GIVEN WITH THE SEED: the statements are not yours to turn. If you find one false, say at which input.
  Laid BY PROGRAM, IN A SANDBOX (cutbox-rows.mjs): the forced cells as the released guide's own fill.sh prints them over the translation 201ab557f92970d1… (all of the seat's roots in one cut). By AI agents, Wed Nov 11 2026. No macro, syntax, notation, axiom, sorry.
-/
import Derived.Test.YtdfjdmmmlidamaaChecked
import GoSem.Claim
import GoSem.ClaimJoined
import GoSem.ClaimMapViews
import Derived.JoinedTies
import Derived.KernelRfl
namespace Go.Proofs.Ytdfjdmmmlidamaa
/- THE CELL 'sum', in the pinned program and in every row, IS THE sha256 OF THE DUMP (.gsa) THAT YtdfjdmmmlidamaaProg.lean LOADS. Nothing in Lean hashes anything: it is a label: what it is worth is what the hold of that sum in a sandbox is worth. -/
noncomputable def Try.pinned : Pinned := { name := "ytdfjdmmmlidamaa", sum := "201ab557f92970d1f96c2f194fd1faa67c40837302b05f602bc12bf70ace94fd", checked := Try.checked }
namespace Rows
def none {H : Type} : Left H := { results := [], args := [] }

/-- 'laws.FnBTreeReplaces': WHATEVER THE INPUT: true; the input reads as it did. -/
def fnBTreeReplacesSpec : ChangeSpec := { name := "fnBTreeReplaces", fn := fun _ => fun
  | [d1, d2, d3] => { results := [.lit (.bool true)], args := [d1, d2, d3] }
  | _ => none }
def fnBTreeReplacesRow : OpenClaim := { program := "ytdfjdmmmlidamaa", sum := "201ab557f92970d1f96c2f194fd1faa67c40837302b05f602bc12bf70ace94fd", func := "pub-stadtholder/laws.FnBTreeReplaces", spec := "fnBTreeReplaces", unfollowed := true, recurses := true, apart := false }
def FnBTreeReplacesSaid : Prop := fnBTreeReplacesRow.holds Try.pinned (OpenSpec.ofChange fnBTreeReplacesSpec)

/-- ITS FALSE NEIGHBOUR: 'it returns false'. Refute it at one input. -/
def fnBTreeReplacesWrong : ChangeSpec := { name := "fnBTreeReplaces", fn := fun _ => fun
  | [d1, d2, d3] => { results := [.lit (.bool false)], args := [d1, d2, d3] }
  | _ => none }
def FnBTreeReplacesWrongFalsely : Prop := fnBTreeReplacesRow.holds Try.pinned (OpenSpec.ofChange fnBTreeReplacesWrong)

/-- 'laws.FnBTreeDegrees': WHATEVER THE INPUT: true; the input reads as it did. -/
def fnBTreeDegreesSpec : ChangeSpec := { name := "fnBTreeDegrees", fn := fun _ => fun
  | [d1, d2, d3] => { results := [.lit (.bool true)], args := [d1, d2, d3] }
  | _ => none }
def fnBTreeDegreesRow : OpenClaim := { program := "ytdfjdmmmlidamaa", sum := "201ab557f92970d1f96c2f194fd1faa67c40837302b05f602bc12bf70ace94fd", func := "pub-stadtholder/laws.FnBTreeDegrees", spec := "fnBTreeDegrees", unfollowed := true, recurses := true, apart := false }
def FnBTreeDegreesSaid : Prop := fnBTreeDegreesRow.holds Try.pinned (OpenSpec.ofChange fnBTreeDegreesSpec)

/-- ITS FALSE NEIGHBOUR: 'it returns false'. Refute it at one input. -/
def fnBTreeDegreesWrong : ChangeSpec := { name := "fnBTreeDegrees", fn := fun _ => fun
  | [d1, d2, d3] => { results := [.lit (.bool false)], args := [d1, d2, d3] }
  | _ => none }
def FnBTreeDegreesWrongFalsely : Prop := fnBTreeDegreesRow.holds Try.pinned (OpenSpec.ofChange fnBTreeDegreesWrong)

/-- 'laws.FnBTreeRanges': WHATEVER THE INPUT: true; the input reads as it did. -/
def fnBTreeRangesSpec : ChangeSpec := { name := "fnBTreeRanges", fn := fun _ => fun
  | [d1, d2, d3, d4, d5] => { results := [.lit (.bool true)], args := [d1, d2, d3, d4, d5] }
  | _ => none }
def fnBTreeRangesRow : OpenClaim := { program := "ytdfjdmmmlidamaa", sum := "201ab557f92970d1f96c2f194fd1faa67c40837302b05f602bc12bf70ace94fd", func := "pub-stadtholder/laws.FnBTreeRanges", spec := "fnBTreeRanges", unfollowed := true, recurses := true, apart := false }
def FnBTreeRangesSaid : Prop := fnBTreeRangesRow.holds Try.pinned (OpenSpec.ofChange fnBTreeRangesSpec)

/-- ITS FALSE NEIGHBOUR: 'it returns false'. Refute it at one input. -/
def fnBTreeRangesWrong : ChangeSpec := { name := "fnBTreeRanges", fn := fun _ => fun
  | [d1, d2, d3, d4, d5] => { results := [.lit (.bool false)], args := [d1, d2, d3, d4, d5] }
  | _ => none }
def FnBTreeRangesWrongFalsely : Prop := fnBTreeRangesRow.holds Try.pinned (OpenSpec.ofChange fnBTreeRangesWrong)

/- THE SECOND FORM. 'bulk': how many values and letters a reading holds, each counted each time it is reached (what is shared counts as often as it is met; a slice's spare places count too). A statement '..UptoSaid' is the law's where the arguments, and the package variables that the reading takes, are together of bulk at most 1048576: NARROWER than '..Said'. Prove '..Said' where nothing that the law and all that it calls make is longer than what came in: it says more and counts as full. Else prove '..UptoSaid'. A law counts once. -/
mutual
def uptoBulk {H : Type} : DataW H → Nat
  | .lit (.string bytes) => bytes.length + 1
  | .lit _ => 1
  | .nil => 1
  | .ptr d => uptoBulk d + 1
  | .slice elems spare => uptoBulkAll elems + uptoBulkAll spare + 1
  | .agg parts => uptoBulkAll parts + 1
  | .iface _ d => uptoBulk d + 1
  | .map entries => uptoBulkEntries entries + 1
  | .held _ => 1
def uptoBulkAll {H : Type} : List (DataW H) → Nat
  | [] => 0
  | d :: r => uptoBulk d + uptoBulkAll r
def uptoBulkEntries {H : Type} : List (Lit × DataW H) → Nat
  | [] => 0
  | x :: r => uptoBulkEntry x + uptoBulkEntries r
def uptoBulkEntry {H : Type} : Lit × DataW H → Nat
  | (.string bytes, d) => bytes.length + uptoBulk d + 1
  | (_, d) => uptoBulk d + 1
 end
def uptoSmall : (H : Type) → List (DataW H) → Bool := fun _ ds => decide (uptoBulkAll ds ≤ 1048576)
def OpenSpec.upto (s : _root_.Go.ChangeSpec) : _root_.Go.OpenSpec := { _root_.Go.OpenSpec.ofChange s with cond := some uptoSmall }

/-- 'laws.FnBTreeReplaces', WHERE WHAT IT READS IS OF BULK AT MOST 1048576: true; the input reads as it did. -/
def fnBTreeReplacesUptoRow : OpenClaim := { program := "ytdfjdmmmlidamaa", sum := "201ab557f92970d1f96c2f194fd1faa67c40837302b05f602bc12bf70ace94fd", func := "pub-stadtholder/laws.FnBTreeReplaces", spec := "fnBTreeReplaces", unfollowed := true, recurses := true, apart := false, narrowed := true }
def FnBTreeReplacesUptoSaid : Prop := fnBTreeReplacesUptoRow.holds Try.pinned (OpenSpec.upto fnBTreeReplacesSpec)

/-- 'laws.FnBTreeDegrees', WHERE WHAT IT READS IS OF BULK AT MOST 1048576: true; the input reads as it did. -/
def fnBTreeDegreesUptoRow : OpenClaim := { program := "ytdfjdmmmlidamaa", sum := "201ab557f92970d1f96c2f194fd1faa67c40837302b05f602bc12bf70ace94fd", func := "pub-stadtholder/laws.FnBTreeDegrees", spec := "fnBTreeDegrees", unfollowed := true, recurses := true, apart := false, narrowed := true }
def FnBTreeDegreesUptoSaid : Prop := fnBTreeDegreesUptoRow.holds Try.pinned (OpenSpec.upto fnBTreeDegreesSpec)

/-- 'laws.FnBTreeRanges', WHERE WHAT IT READS IS OF BULK AT MOST 1048576: true; the input reads as it did. -/
def fnBTreeRangesUptoRow : OpenClaim := { program := "ytdfjdmmmlidamaa", sum := "201ab557f92970d1f96c2f194fd1faa67c40837302b05f602bc12bf70ace94fd", func := "pub-stadtholder/laws.FnBTreeRanges", spec := "fnBTreeRanges", unfollowed := true, recurses := true, apart := false, narrowed := true }
def FnBTreeRangesUptoSaid : Prop := fnBTreeRangesUptoRow.holds Try.pinned (OpenSpec.upto fnBTreeRangesSpec)

end Rows
end Go.Proofs.Ytdfjdmmmlidamaa
