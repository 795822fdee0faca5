/- The own words of these proofs: functions with deferred calls that never panic. -/
import Derived.Test.YtlnihndjepjagaaGwT
set_option linter.unusedVariables false
set_option linter.unusedSimpArgs false
set_option linter.unusedSectionVars false
namespace Go.Proofs.Ytlnihndjepjagaa.Gw
open Go Go.RowKit
section
variable {P : Program} {n : Nat} {e : Env} {w : World}
def bodyPostN (P : Program) (fn : Func) (R : Ending → World → Prop) : Exit → Act → World → Prop
  | .normal, a, w => Leaves P fn a.tmps R a.defers .returning w
  | .ret, a, w => Leaves P fn a.tmps R a.defers .returning w
  | _, _, _ => False
theorem bodyPostN_D {fn : Func} {R : Ending → World → Prop} : ∀ ex a w, bodyPostN P fn R ex a w → bodyPostD P fn R ex a w
  | .normal, _, _, h => h
  | .ret, _, _, h => h
theorem R_N {fn : Func} {R : Ending → World → Prop} {dd : List Deferred} (h : Leaves P fn (mkA n e dd).tmps R dd .returning w) : bodyPostN P fn R .ret (mkA n e dd) w := by
  show Leaves P fn (mkA n e dd).tmps R (mkA n e dd).defers .returning w
  rw [mkA_defers]; exact h
theorem R_Nn {fn : Func} {R : Ending → World → Prop} {dd : List Deferred} (h : Leaves P fn (mkA n e dd).tmps R dd .returning w) : bodyPostN P fn R .normal (mkA n e dd) w := by
  show Leaves P fn (mkA n e dd).tmps R (mkA n e dd).defers .returning w
  rw [mkA_defers]; exact h
theorem Calls.intoN {f : FuncId} {fn : Func} {c : Code} {args : Array Value} {al : List Value} {R : Ending → World → Prop} (hf : P.funcs[f]? = some fn) (hb : fn.body = some c) (hn : fn.ntmps = n) (ha : args = al.toArray)
    (hl : Nat.ble al.length n = true) (h : c.wp P (bodyPostN P fn R) (mkA n (fun t => al.getD t undef) []) w) : Calls P f args w R :=
  Calls.intoD hf hb hn ha hl (Code.wp_mono bodyPostN_D h)
theorem Tri.intoN {f : FuncId} {fn : Func} {c : Code} {args : Array Value} {al : List Value} {R : HP} {pre : List SP} {Qc : Value → List SP → Prop} (hf : P.funcs[f]? = some fn) (hb : fn.body = some c) (hn : fn.ntmps = n)
    (ha : args = al.toArray) (hl : Nat.ble al.length n = true)
    (h : ∀ w F, Holds w (ro R :: (pre ++ F)) → c.wp P (bodyPostN P fn fun r w' => ∃ v post, r = .returned v ∧ Qc v post ∧ Same w w' ∧ Holds w' (ro R :: (post ++ F))) (mkA n (fun t => al.getD t undef) []) w) :
    Tri P f args R pre Qc := fun w F hh => Calls.intoN hf hb hn ha hl (h w F hh)
/-- The place of a field without cells, at the beginning of a block of ours. -/
theorem x_fieldAddr0 {d : Option Nat} {ty : TypeId} {pos : String} {af : Array Edge} {g : Option (Nat × Bool)} {l : List SP} {s T f b bb : Nat} {x : Operand} {fs : Array Field} {fd : Field} {z : Option Value} {cs : List Value} (hx : ev n e x = .pointer (some ⟨b, 0, none⟩))
    (hu : P.underlying s = some (.struct fs)) (hf : fs[f]? = some fd) (hz : tin P fd.type = some (0, bb, z)) (ho : fd.offset = 0) (hby : fd.byteOffset = 0) (h : Holds w l) (i : Nat) (hi : l[i]? = some (cl b T cs)) (hc : byteOfCell P P.depth T 0 = some 0) :
    (execOp (ev n e) ⟨d, .fieldAddr s x f, ty, pos, af, g⟩).run P w = .ok (.value (.pointer (some ⟨b, 0, none⟩))) w := by
  obtain ⟨fr, eb, _⟩ := h.cl_block i hi
  have hs : w.shape? b = some (T, cs.toArray.size) := by simp [World.shape?, eb]
  have hb : (byteOf ⟨b, 0, none⟩).run P w = .ok 0 w := by
    have hv : (viewAt b).run P w = .ok none w := by simp [viewAt, shape, Sem.run_bind, Sem.run, hs]
    by_cases h0 : P.cellsOf T = 0
    · simp [byteOf, noView, Sem.run_bind, program, Sem.run, shape, hs, hv, h0]
    · simp [byteOf, noView, Sem.run_bind, program, Sem.run, shape, hs, hv, h0, hc]
  simp only [execOp]
  rw [hx]
  refine run_v _ ?_
  simp only [Instr.fieldAt, Sem.run_bind, run_underlying hu, Result.andThen_ok, hf, Instr.sureAddr, Sem.run_pure, fieldPlace, run_sizeOf hz]
  simp [partAt, ho, hby, hb, Sem.run_bind]
end
end Go.Proofs.Ytlnihndjepjagaa.Gw
