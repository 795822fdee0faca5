/-
  No cell of these rows narrows 'for every input' (looked for: loops, veiled, ifaces, maps, wideKeys, modest, calm, conditions, laid).
  DERIVED. THE GIVEN ROWS OF THIS SEAT. 3 by the template 'for every input the law returns true; each argument reads behind the call as it read before'; 0 by the template 'total and deterministic' (their statements: YtlnihndjepjagaaGreatTotals.lean).
  GIVEN WITH THE SEED: the statements are not yours to turn. If you find one false, say at which input.
  Laid BY PROGRAM, IN A SANDBOX (cutbox-rows.mjs): the forced cells as the released guide's own fill.sh prints them over the translation 649ec90ba5a29945… (all of the seat's roots in one cut). By AI agents, Wed Nov 11 2026. No macro, syntax, notation, axiom, sorry.
-/
import Derived.Test.YtlnihndjepjagaaGreatChecked
import GoSem.Claim
import GoSem.ClaimJoined
import GoSem.ClaimMapViews
import Derived.JoinedTies
import Derived.KernelRfl
namespace Go.Proofs.YtlnihndjepjagaaGreat
/- THE CELL 'sum', in the pinned program and in every row, IS THE sha256 OF THE DUMP (.gsa) THAT YtlnihndjepjagaaGreatProg.lean LOADS. Nothing in Lean hashes anything: it is a label: what it is worth is what the hold of that sum in a sandbox is worth. -/
noncomputable def Tryz.pinned : Pinned := { name := "ytlnihndjepjagaagreat", sum := "649ec90ba5a2994524866410b92951751e7a2074d7de32f325315ffea67d4023", checked := Tryz.checked }
namespace Rows
def none {H : Type} : Left H := { results := [], args := [] }

/-- 'laws.FnGroupContains': WHATEVER THE INPUT: true; the input reads as it did. -/
def fnGroupContainsSpec : ChangeSpec := { name := "fnGroupContains", fn := fun _ => fun
  | [d1, d2] => { results := [.lit (.bool true)], args := [d1, d2] }
  | _ => none }
def fnGroupContainsRow : OpenClaim := { program := "ytlnihndjepjagaagreat", sum := "649ec90ba5a2994524866410b92951751e7a2074d7de32f325315ffea67d4023", func := "pub-stadtholder/laws.FnGroupContains", spec := "fnGroupContains", unfollowed := true, recurses := true, apart := false }
def FnGroupContainsSaid : Prop := fnGroupContainsRow.holds Tryz.pinned (OpenSpec.ofChange fnGroupContainsSpec)

/-- ITS FALSE NEIGHBOUR: 'it returns false'. Refute it at one input. -/
def fnGroupContainsWrong : ChangeSpec := { name := "fnGroupContains", fn := fun _ => fun
  | [d1, d2] => { results := [.lit (.bool false)], args := [d1, d2] }
  | _ => none }
def FnGroupContainsWrongFalsely : Prop := fnGroupContainsRow.holds Tryz.pinned (OpenSpec.ofChange fnGroupContainsWrong)

/-- 'laws.FnGroupLeaves': WHATEVER THE INPUT: true; the input reads as it did. -/
def fnGroupLeavesSpec : ChangeSpec := { name := "fnGroupLeaves", fn := fun _ => fun
  | [d1, d2, d3] => { results := [.lit (.bool true)], args := [d1, d2, d3] }
  | _ => none }
def fnGroupLeavesRow : OpenClaim := { program := "ytlnihndjepjagaagreat", sum := "649ec90ba5a2994524866410b92951751e7a2074d7de32f325315ffea67d4023", func := "pub-stadtholder/laws.FnGroupLeaves", spec := "fnGroupLeaves", unfollowed := true, recurses := true, apart := false }
def FnGroupLeavesSaid : Prop := fnGroupLeavesRow.holds Tryz.pinned (OpenSpec.ofChange fnGroupLeavesSpec)

/-- ITS FALSE NEIGHBOUR: 'it returns false'. Refute it at one input. -/
def fnGroupLeavesWrong : ChangeSpec := { name := "fnGroupLeaves", fn := fun _ => fun
  | [d1, d2, d3] => { results := [.lit (.bool false)], args := [d1, d2, d3] }
  | _ => none }
def FnGroupLeavesWrongFalsely : Prop := fnGroupLeavesRow.holds Tryz.pinned (OpenSpec.ofChange fnGroupLeavesWrong)

/-- 'laws.FnEventsOf': WHATEVER THE INPUT: true; the input reads as it did. -/
def fnEventsOfSpec : ChangeSpec := { name := "fnEventsOf", fn := fun _ => fun
  | [d1, d2] => { results := [.lit (.bool true)], args := [d1, d2] }
  | _ => none }
def fnEventsOfRow : OpenClaim := { program := "ytlnihndjepjagaagreat", sum := "649ec90ba5a2994524866410b92951751e7a2074d7de32f325315ffea67d4023", func := "pub-stadtholder/laws.FnEventsOf", spec := "fnEventsOf", unfollowed := true, recurses := true, apart := false }
def FnEventsOfSaid : Prop := fnEventsOfRow.holds Tryz.pinned (OpenSpec.ofChange fnEventsOfSpec)

/-- ITS FALSE NEIGHBOUR: 'it returns false'. Refute it at one input. -/
def fnEventsOfWrong : ChangeSpec := { name := "fnEventsOf", fn := fun _ => fun
  | [d1, d2] => { results := [.lit (.bool false)], args := [d1, d2] }
  | _ => none }
def FnEventsOfWrongFalsely : Prop := fnEventsOfRow.holds Tryz.pinned (OpenSpec.ofChange fnEventsOfWrong)

/- THE SECOND FORM. 'bulk': how many values and letters a reading holds, each counted each time it is reached (what is shared counts as often as it is met; a slice's spare places count too). A statement '..UptoSaid' is the law's where the arguments, and the package variables that the reading takes, are together of bulk at most 1048576: NARROWER than '..Said'. Prove '..Said' where nothing that the law and all that it calls make is longer than what came in: it says more and counts as full. Else prove '..UptoSaid'. A law counts once. -/
mutual
def uptoBulk {H : Type} : DataW H → Nat
  | .lit (.string bytes) => bytes.length + 1
  | .lit _ => 1
  | .nil => 1
  | .ptr d => uptoBulk d + 1
  | .slice elems spare => uptoBulkAll elems + uptoBulkAll spare + 1
  | .agg parts => uptoBulkAll parts + 1
  | .iface _ d => uptoBulk d + 1
  | .map entries => uptoBulkEntries entries + 1
  | .held _ => 1
def uptoBulkAll {H : Type} : List (DataW H) → Nat
  | [] => 0
  | d :: r => uptoBulk d + uptoBulkAll r
def uptoBulkEntries {H : Type} : List (Lit × DataW H) → Nat
  | [] => 0
  | x :: r => uptoBulkEntry x + uptoBulkEntries r
def uptoBulkEntry {H : Type} : Lit × DataW H → Nat
  | (.string bytes, d) => bytes.length + uptoBulk d + 1
  | (_, d) => uptoBulk d + 1
 end
def uptoSmall : (H : Type) → List (DataW H) → Bool := fun _ ds => decide (uptoBulkAll ds ≤ 1048576)
def OpenSpec.upto (s : _root_.Go.ChangeSpec) : _root_.Go.OpenSpec := { _root_.Go.OpenSpec.ofChange s with cond := some uptoSmall }

/-- 'laws.FnGroupContains', WHERE WHAT IT READS IS OF BULK AT MOST 1048576: true; the input reads as it did. -/
def fnGroupContainsUptoRow : OpenClaim := { program := "ytlnihndjepjagaagreat", sum := "649ec90ba5a2994524866410b92951751e7a2074d7de32f325315ffea67d4023", func := "pub-stadtholder/laws.FnGroupContains", spec := "fnGroupContains", unfollowed := true, recurses := true, apart := false, narrowed := true }
def FnGroupContainsUptoSaid : Prop := fnGroupContainsUptoRow.holds Tryz.pinned (OpenSpec.upto fnGroupContainsSpec)

/-- 'laws.FnGroupLeaves', WHERE WHAT IT READS IS OF BULK AT MOST 1048576: true; the input reads as it did. -/
def fnGroupLeavesUptoRow : OpenClaim := { program := "ytlnihndjepjagaagreat", sum := "649ec90ba5a2994524866410b92951751e7a2074d7de32f325315ffea67d4023", func := "pub-stadtholder/laws.FnGroupLeaves", spec := "fnGroupLeaves", unfollowed := true, recurses := true, apart := false, narrowed := true }
def FnGroupLeavesUptoSaid : Prop := fnGroupLeavesUptoRow.holds Tryz.pinned (OpenSpec.upto fnGroupLeavesSpec)

/-- 'laws.FnEventsOf', WHERE WHAT IT READS IS OF BULK AT MOST 1048576: true; the input reads as it did. -/
def fnEventsOfUptoRow : OpenClaim := { program := "ytlnihndjepjagaagreat", sum := "649ec90ba5a2994524866410b92951751e7a2074d7de32f325315ffea67d4023", func := "pub-stadtholder/laws.FnEventsOf", spec := "fnEventsOf", unfollowed := true, recurses := true, apart := false, narrowed := true }
def FnEventsOfUptoSaid : Prop := fnEventsOfUptoRow.holds Tryz.pinned (OpenSpec.upto fnEventsOfSpec)

end Rows
end Go.Proofs.YtlnihndjepjagaaGreat
