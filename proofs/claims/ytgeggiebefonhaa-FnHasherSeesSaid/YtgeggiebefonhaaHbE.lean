/- Which rows count, and the hash. -/
import Derived.Test.YtgeggiebefonhaaHbB0
set_option linter.unusedVariables false
set_option linter.unusedSimpArgs false
namespace Go.Proofs.Ytgeggiebefonhaa
open Go Go.RowKit Gw
def hcnt (compact rev : Int) (ks : List (Int × Int)) (x : RW) : Prop := x.rev_Main ≤ rev ∧ (compact < x.rev_Main ∨ ks = [] ∨ (x.rev_Main, x.rev_Sub) ∈ ks) ∧ ¬ (x.rev_Main = compact ∧ x.gone = true)
instance (compact rev : Int) (ks : List (Int × Int)) (x : RW) : Decidable (hcnt compact rev ks x) := by unfold hcnt; infer_instance
def hstep (compact rev : Int) (ks : List (Int × Int)) (n : Int) (x : RW) : Int := if hcnt compact rev ks x then crc (crc n x.kb) x.vb else n
theorem hstep_no {compact rev n : Int} {ks : List (Int × Int)} {x : RW} (h : ¬ hcnt compact rev ks x) : n = hstep compact rev ks n x := by unfold hstep; rw [if_neg h]
theorem hstep_yes {compact rev n : Int} {ks : List (Int × Int)} {x : RW} (h1 : x.rev_Main ≤ rev) (h2 : compact < x.rev_Main ∨ ks = [] ∨ (x.rev_Main, x.rev_Sub) ∈ ks) (h3 : ¬ (x.rev_Main = compact ∧ x.gone = true)) : crc (crc n x.kb) x.vb = hstep compact rev ks n x := by
  unfold hstep; rw [if_pos ⟨h1, h2, h3⟩]
def gt (a b c d : Int) : Bool := decide (c < a ∨ c = a ∧ d < b)
theorem gt_up {a m s : Int} (hs : 0 ≤ s) : gt (a + 1) 0 m s = decide (m ≤ a) := by
  unfold gt; exact decide_eq_decide.2 (by omega)
/-- The map of what is kept. -/
structure MK (m : List ((Int × Int) × Value)) (ks : List (Int × Int)) : Prop where
  yes : ∀ a, a ∈ ks → mget m a = some (.agg #[])
  no : ∀ a, a ∉ ks → mget m a = none
  nil : m = [] ↔ ks = []
  nd : (m.map (·.1)).Nodup
theorem MK.empty : MK [] [] := ⟨fun a h => absurd h List.not_mem_nil, fun a _ => rfl, by simp, by simp⟩
theorem MK.in_ {m : List ((Int × Int) × Value)} {ks : List (Int × Int)} (h : MK m ks) {a : Int × Int} {v : Value} (hm : mget m a = some v) : a ∈ ks := by
  by_cases ha : a ∈ ks
  · exact ha
  · rw [h.no a ha] at hm; cases hm
theorem MK.out_ {m : List ((Int × Int) × Value)} {ks : List (Int × Int)} (h : MK m ks) {a : Int × Int} (hm : mget m a = none) : a ∉ ks := fun ha => by
  rw [h.yes a ha] at hm; cases hm
end Go.Proofs.Ytgeggiebefonhaa
