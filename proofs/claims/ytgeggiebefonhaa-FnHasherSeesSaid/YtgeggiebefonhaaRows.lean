/-
  No cell of these rows narrows 'for every input' (looked for: loops, veiled, ifaces, maps, wideKeys, modest, calm, conditions, laid).
  DERIVED. THE GIVEN ROWS OF THIS SEAT. 5 by the template 'for every input the law returns true; each argument reads behind the call as it read before'; 0 by the template 'total and deterministic' (their statements: YtgeggiebefonhaaTotals.lean).
  GIVEN WITH THE SEED: the statements are not yours to turn. If you find one false, say at which input.
  Laid BY PROGRAM, IN A SANDBOX (cutbox-rows.mjs): the forced cells as the released guide's own fill.sh prints them over the translation ac635cf0349b79c6… (all of the seat's roots in one cut). By AI agents, Wed Nov 11 2026. No macro, syntax, notation, axiom, sorry.
-/
import Derived.Test.YtgeggiebefonhaaChecked
import GoSem.Claim
import GoSem.ClaimJoined
import GoSem.ClaimMapViews
import Derived.JoinedTies
import Derived.KernelRfl
namespace Go.Proofs.Ytgeggiebefonhaa
/- THE CELL 'sum', in the pinned program and in every row, IS THE sha256 OF THE DUMP (.gsa) THAT YtgeggiebefonhaaProg.lean LOADS. Nothing in Lean hashes anything: it is a label: what it is worth is what the hold of that sum in a sandbox is worth. -/
noncomputable def Try.pinned : Pinned := { name := "ytgeggiebefonhaa", sum := "ac635cf0349b79c60d1598c64df5f42ae44174754898465d8129a1814cec284e", checked := Try.checked }
namespace Rows
def none {H : Type} : Left H := { results := [], args := [] }

/-- 'laws.FnQueueEmpties': WHATEVER THE INPUT: true; the input reads as it did. -/
def fnQueueEmptiesSpec : ChangeSpec := { name := "fnQueueEmpties", fn := fun _ => fun
  | [d1, d2] => { results := [.lit (.bool true)], args := [d1, d2] }
  | _ => none }
def fnQueueEmptiesRow : OpenClaim := { program := "ytgeggiebefonhaa", sum := "ac635cf0349b79c60d1598c64df5f42ae44174754898465d8129a1814cec284e", func := "pub-stadtholder/laws.FnQueueEmpties", spec := "fnQueueEmpties", unfollowed := true, recurses := true, plainKeys := false, apart := false }
def FnQueueEmptiesSaid : Prop := fnQueueEmptiesRow.holds Try.pinned (OpenSpec.ofChange fnQueueEmptiesSpec)

/-- ITS FALSE NEIGHBOUR: 'it returns false'. Refute it at one input. -/
def fnQueueEmptiesWrong : ChangeSpec := { name := "fnQueueEmpties", fn := fun _ => fun
  | [d1, d2] => { results := [.lit (.bool false)], args := [d1, d2] }
  | _ => none }
def FnQueueEmptiesWrongFalsely : Prop := fnQueueEmptiesRow.holds Try.pinned (OpenSpec.ofChange fnQueueEmptiesWrong)

/-- 'laws.FnHasherSees': WHATEVER THE INPUT: true; the input reads as it did. -/
def fnHasherSeesSpec : ChangeSpec := { name := "fnHasherSees", fn := fun _ => fun
  | [d1, d2, d3, d4, d5, d6, d7] => { results := [.lit (.bool true)], args := [d1, d2, d3, d4, d5, d6, d7] }
  | _ => none }
def fnHasherSeesRow : OpenClaim := { program := "ytgeggiebefonhaa", sum := "ac635cf0349b79c60d1598c64df5f42ae44174754898465d8129a1814cec284e", func := "pub-stadtholder/laws.FnHasherSees", spec := "fnHasherSees", unfollowed := true, recurses := true, plainKeys := false, apart := false }
def FnHasherSeesSaid : Prop := fnHasherSeesRow.holds Try.pinned (OpenSpec.ofChange fnHasherSeesSpec)

/-- ITS FALSE NEIGHBOUR: 'it returns false'. Refute it at one input. -/
def fnHasherSeesWrong : ChangeSpec := { name := "fnHasherSees", fn := fun _ => fun
  | [d1, d2, d3, d4, d5, d6, d7] => { results := [.lit (.bool false)], args := [d1, d2, d3, d4, d5, d6, d7] }
  | _ => none }
def FnHasherSeesWrongFalsely : Prop := fnHasherSeesRow.holds Try.pinned (OpenSpec.ofChange fnHasherSeesWrong)

/-- 'laws.FnWalBytes': WHATEVER THE INPUT: true; the input reads as it did. -/
def fnWalBytesSpec : ChangeSpec := { name := "fnWalBytes", fn := fun _ => fun
  | [d1, d2, d3] => { results := [.lit (.bool true)], args := [d1, d2, d3] }
  | _ => none }
def fnWalBytesRow : OpenClaim := { program := "ytgeggiebefonhaa", sum := "ac635cf0349b79c60d1598c64df5f42ae44174754898465d8129a1814cec284e", func := "pub-stadtholder/laws.FnWalBytes", spec := "fnWalBytes", unfollowed := true, recurses := true, plainKeys := false, apart := false }
def FnWalBytesSaid : Prop := fnWalBytesRow.holds Try.pinned (OpenSpec.ofChange fnWalBytesSpec)

/-- ITS FALSE NEIGHBOUR: 'it returns false'. Refute it at one input. -/
def fnWalBytesWrong : ChangeSpec := { name := "fnWalBytes", fn := fun _ => fun
  | [d1, d2, d3] => { results := [.lit (.bool false)], args := [d1, d2, d3] }
  | _ => none }
def FnWalBytesWrongFalsely : Prop := fnWalBytesRow.holds Try.pinned (OpenSpec.ofChange fnWalBytesWrong)

/-- 'laws.FnWalRefuses': WHATEVER THE INPUT: true; the input reads as it did. -/
def fnWalRefusesSpec : ChangeSpec := { name := "fnWalRefuses", fn := fun _ => fun
  | [d1, d2, d3, d4] => { results := [.lit (.bool true)], args := [d1, d2, d3, d4] }
  | _ => none }
def fnWalRefusesRow : OpenClaim := { program := "ytgeggiebefonhaa", sum := "ac635cf0349b79c60d1598c64df5f42ae44174754898465d8129a1814cec284e", func := "pub-stadtholder/laws.FnWalRefuses", spec := "fnWalRefuses", inPlace := ["slices.overlaps[pub-stadtholder/impl.WalRec]"], unfollowed := true, recurses := true, plainKeys := false, apart := false }
def FnWalRefusesSaid : Prop := fnWalRefusesRow.holds Try.pinned (OpenSpec.ofChange fnWalRefusesSpec)

/-- ITS FALSE NEIGHBOUR: 'it returns false'. Refute it at one input. -/
def fnWalRefusesWrong : ChangeSpec := { name := "fnWalRefuses", fn := fun _ => fun
  | [d1, d2, d3, d4] => { results := [.lit (.bool false)], args := [d1, d2, d3, d4] }
  | _ => none }
def FnWalRefusesWrongFalsely : Prop := fnWalRefusesRow.holds Try.pinned (OpenSpec.ofChange fnWalRefusesWrong)

/-- 'laws.FnTxnOrdered': WHATEVER THE INPUT: true; the input reads as it did. -/
def fnTxnOrderedSpec : ChangeSpec := { name := "fnTxnOrdered", fn := fun _ => fun
  | [d1, d2, d3] => { results := [.lit (.bool true)], args := [d1, d2, d3] }
  | _ => none }
def fnTxnOrderedRow : OpenClaim := { program := "ytgeggiebefonhaa", sum := "ac635cf0349b79c60d1598c64df5f42ae44174754898465d8129a1814cec284e", func := "pub-stadtholder/laws.FnTxnOrdered", spec := "fnTxnOrdered", unfollowed := true, recurses := true, plainKeys := false, apart := false }
def FnTxnOrderedSaid : Prop := fnTxnOrderedRow.holds Try.pinned (OpenSpec.ofChange fnTxnOrderedSpec)

/-- ITS FALSE NEIGHBOUR: 'it returns false'. Refute it at one input. -/
def fnTxnOrderedWrong : ChangeSpec := { name := "fnTxnOrdered", fn := fun _ => fun
  | [d1, d2, d3] => { results := [.lit (.bool false)], args := [d1, d2, d3] }
  | _ => none }
def FnTxnOrderedWrongFalsely : Prop := fnTxnOrderedRow.holds Try.pinned (OpenSpec.ofChange fnTxnOrderedWrong)

/- THE SECOND FORM. 'bulk': how many values and letters a reading holds, each counted each time it is reached (what is shared counts as often as it is met; a slice's spare places count too). A statement '..UptoSaid' is the law's where the arguments, and the package variables that the reading takes, are together of bulk at most 1048576: NARROWER than '..Said'. Prove '..Said' where nothing that the law and all that it calls make is longer than what came in: it says more and counts as full. Else prove '..UptoSaid'. A law counts once. -/
mutual
def uptoBulk {H : Type} : DataW H → Nat
  | .lit (.string bytes) => bytes.length + 1
  | .lit _ => 1
  | .nil => 1
  | .ptr d => uptoBulk d + 1
  | .slice elems spare => uptoBulkAll elems + uptoBulkAll spare + 1
  | .agg parts => uptoBulkAll parts + 1
  | .iface _ d => uptoBulk d + 1
  | .map entries => uptoBulkEntries entries + 1
  | .held _ => 1
def uptoBulkAll {H : Type} : List (DataW H) → Nat
  | [] => 0
  | d :: r => uptoBulk d + uptoBulkAll r
def uptoBulkEntries {H : Type} : List (Lit × DataW H) → Nat
  | [] => 0
  | x :: r => uptoBulkEntry x + uptoBulkEntries r
def uptoBulkEntry {H : Type} : Lit × DataW H → Nat
  | (.string bytes, d) => bytes.length + uptoBulk d + 1
  | (_, d) => uptoBulk d + 1
 end
def uptoSmall : (H : Type) → List (DataW H) → Bool := fun _ ds => decide (uptoBulkAll ds ≤ 1048576)
def OpenSpec.upto (s : _root_.Go.ChangeSpec) : _root_.Go.OpenSpec := { _root_.Go.OpenSpec.ofChange s with cond := some uptoSmall }

/-- 'laws.FnQueueEmpties', WHERE WHAT IT READS IS OF BULK AT MOST 1048576: true; the input reads as it did. -/
def fnQueueEmptiesUptoRow : OpenClaim := { program := "ytgeggiebefonhaa", sum := "ac635cf0349b79c60d1598c64df5f42ae44174754898465d8129a1814cec284e", func := "pub-stadtholder/laws.FnQueueEmpties", spec := "fnQueueEmpties", unfollowed := true, recurses := true, plainKeys := false, apart := false, narrowed := true }
def FnQueueEmptiesUptoSaid : Prop := fnQueueEmptiesUptoRow.holds Try.pinned (OpenSpec.upto fnQueueEmptiesSpec)

/-- 'laws.FnHasherSees', WHERE WHAT IT READS IS OF BULK AT MOST 1048576: true; the input reads as it did. -/
def fnHasherSeesUptoRow : OpenClaim := { program := "ytgeggiebefonhaa", sum := "ac635cf0349b79c60d1598c64df5f42ae44174754898465d8129a1814cec284e", func := "pub-stadtholder/laws.FnHasherSees", spec := "fnHasherSees", unfollowed := true, recurses := true, plainKeys := false, apart := false, narrowed := true }
def FnHasherSeesUptoSaid : Prop := fnHasherSeesUptoRow.holds Try.pinned (OpenSpec.upto fnHasherSeesSpec)

/-- 'laws.FnWalBytes', WHERE WHAT IT READS IS OF BULK AT MOST 1048576: true; the input reads as it did. -/
def fnWalBytesUptoRow : OpenClaim := { program := "ytgeggiebefonhaa", sum := "ac635cf0349b79c60d1598c64df5f42ae44174754898465d8129a1814cec284e", func := "pub-stadtholder/laws.FnWalBytes", spec := "fnWalBytes", unfollowed := true, recurses := true, plainKeys := false, apart := false, narrowed := true }
def FnWalBytesUptoSaid : Prop := fnWalBytesUptoRow.holds Try.pinned (OpenSpec.upto fnWalBytesSpec)

/-- 'laws.FnWalRefuses', WHERE WHAT IT READS IS OF BULK AT MOST 1048576: true; the input reads as it did. -/
def fnWalRefusesUptoRow : OpenClaim := { program := "ytgeggiebefonhaa", sum := "ac635cf0349b79c60d1598c64df5f42ae44174754898465d8129a1814cec284e", func := "pub-stadtholder/laws.FnWalRefuses", spec := "fnWalRefuses", inPlace := ["slices.overlaps[pub-stadtholder/impl.WalRec]"], unfollowed := true, recurses := true, plainKeys := false, apart := false, narrowed := true }
def FnWalRefusesUptoSaid : Prop := fnWalRefusesUptoRow.holds Try.pinned (OpenSpec.upto fnWalRefusesSpec)

/-- 'laws.FnTxnOrdered', WHERE WHAT IT READS IS OF BULK AT MOST 1048576: true; the input reads as it did. -/
def fnTxnOrderedUptoRow : OpenClaim := { program := "ytgeggiebefonhaa", sum := "ac635cf0349b79c60d1598c64df5f42ae44174754898465d8129a1814cec284e", func := "pub-stadtholder/laws.FnTxnOrdered", spec := "fnTxnOrdered", unfollowed := true, recurses := true, plainKeys := false, apart := false, narrowed := true }
def FnTxnOrderedUptoSaid : Prop := fnTxnOrderedUptoRow.holds Try.pinned (OpenSpec.upto fnTxnOrderedSpec)

end Rows
end Go.Proofs.Ytgeggiebefonhaa
