/- The own words of these proofs: maps whose keys are pairs of numbers. -/
import Derived.Test.YtlnihndjepjagaaGwW
import Derived.Test.YtlnihndjepjagaaGwI
set_option linter.unusedVariables false
set_option linter.unusedSimpArgs false
set_option linter.unusedSectionVars false
namespace Go.Proofs.Ytlnihndjepjagaa.Gw
open Go Go.RowKit
section
variable {P : Program} {n : Nat} {e : Env} {w : World}
def K2 (a : Int × Int) : Value := .agg #[.int .i64 a.1, .int .i64 a.2]
structure PairT (P : Program) (k t : TypeId) (f0 f1 : Field) : Prop where
  hk : P.underlying k = some (.struct #[f0, f1])
  hs : P.stoodInHeld k = false
  n0 : (f0.name == "_") = false
  n1 : (f1.name == "_") = false
  t0 : f0.type = t
  t1 : f1.type = t
  o0 : f0.offset = 0
  o1 : f1.offset = 1
  ht : P.underlying t = some (.int .i64)
theorem PairT.eq {k t : TypeId} {f0 f1 : Field} (h : PairT P k t f0 f1) (a b : Int × Int) : (Op.equal k (K2 a) (K2 b)).run P w = .ok (decide (a = b)) w := by
  have h0 : (part f0.type #[.int .i64 a.1, .int .i64 a.2] f0.offset).run P w = .ok (.int .i64 a.1) w := by rw [h.t0, h.o0]; exact run_part1 h.ht rfl rfl
  have h1 : (part f0.type #[.int .i64 b.1, .int .i64 b.2] f0.offset).run P w = .ok (.int .i64 b.1) w := by rw [h.t0, h.o0]; exact run_part1 h.ht rfl rfl
  have h2 : (part f1.type #[.int .i64 a.1, .int .i64 a.2] f1.offset).run P w = .ok (.int .i64 a.2) w := by rw [h.t1, h.o1]; exact run_part1 h.ht rfl rfl
  have h3 : (part f1.type #[.int .i64 b.1, .int .i64 b.2] f1.offset).run P w = .ok (.int .i64 b.2) w := by rw [h.t1, h.o1]; exact run_part1 h.ht rfl rfl
  have e0 : (Op.equalIn (9998 + 1) f0.type (.int .i64 a.1) (.int .i64 b.1)).run P w = .ok (decide (a.1 = b.1)) w := by rw [h.t0]; exact eq_int h.ht
  have e1 : (Op.equalIn (9998 + 1) f1.type (.int .i64 a.2) (.int .i64 b.2)).run P w = .ok (decide (a.2 = b.2)) w := by rw [h.t1]; exact eq_int h.ht
  have hh : (Op.equalIn (9999 + 1) k (K2 a) (K2 b)).run P w = .ok (decide (a.1 = b.1) && (decide (a.2 = b.2) && true)) w :=
    eq_struct h.hk h.hs (eqf_cons h.n0 h0 h1 e0 (eqf_cons h.n1 h2 h3 e1 eqf_nil))
  have e2 : (decide (a.1 = b.1) && (decide (a.2 = b.2) && true)) = decide (a = b) := by
    obtain ⟨a1, a2⟩ := a; obtain ⟨b1, b2⟩ := b
    by_cases x : a1 = b1 <;> by_cases y : a2 = b2 <;> simp [x, y]
  rw [← e2]; exact hh
theorem PairT.asking {k t : TypeId} {f0 f1 : Field} (h : PairT P k t f0 f1) (a : Int × Int) : ∀ (es : List MapEntry) (m : List (Int × Int)) (i : Nat), es.map (·.key) = m.map K2 →
    (Instr.findAsking k (K2 a) es i).run P w = .ok ((m.findIdx? (· = a)).bind fun j => (es[j]?).map fun e => (i + j, e.val)) w
  | [], [], i, _ => by simp [Instr.findAsking]
  | [], _ :: _, i, hm => by simp at hm
  | _ :: _, [], i, hm => by simp at hm
  | e :: es, x :: m, i, hm => by
    simp only [List.map_cons, List.cons.injEq] at hm
    have ih := h.asking a es m (i + 1) hm.2
    unfold Instr.findAsking
    rw [hm.1]
    simp only [Sem.run_bind, h.eq a x, Result.andThen_ok]
    by_cases hx : x = a
    · subst hx
      simp [List.findIdx?_cons]
    · have hx' : ¬ a = x := fun e => hx e.symm
      simp only [hx', decide_false, List.findIdx?_cons, hx]
      simp only [Bool.false_eq_true, if_false, ih]
      cases hm2 : List.findIdx? (fun x => decide (x = a)) m with
      | none => simp
      | some j => simp [Nat.add_assoc, Nat.add_comm 1 j]
theorem KeyKind.pair {k t : TypeId} {f0 f1 : Field} (h : PairT P k t f0 f1) : KeyKind P k K2 where
  inj := fun a b e => by
    simp only [K2, Value.agg.injEq, Array.mk.injEq, List.cons.injEq, Value.int.injEq, true_and, and_true] at e
    exact Prod.ext e.1 e.2
  check := fun w em a => by
    have h0 : (part f0.type #[.int .i64 a.1, .int .i64 a.2] f0.offset).run P w = .ok (.int .i64 a.1) w := by rw [h.t0, h.o0]; exact run_part1 h.ht rfl rfl
    have h2 : (part f1.type #[.int .i64 a.1, .int .i64 a.2] f1.offset).run P w = .ok (.int .i64 a.2) w := by rw [h.t1, h.o1]; exact run_part1 h.ht rfl rfl
    have c0 : (Instr.checkKey em (9998 + 1) f0.type (.int .i64 a.1)).run P w = .ok () w := by rw [h.t0]; exact checkKey_int h.ht em _ 9998
    have c1 : (Instr.checkKey em (9998 + 1) f1.type (.int .i64 a.2)).run P w = .ok () w := by rw [h.t1]; exact checkKey_int h.ht em _ 9998
    have n0 : ¬ f0.name = "_" := by simpa using h.n0
    have n1 : ¬ f1.name = "_" := by simpa using h.n1
    have e1 : (10000 : Nat) = (9998 + 1) + 1 := rfl
    rw [e1]
    unfold Instr.checkKey
    simp only [Sem.run_bind, run_underlying h.hk, Result.andThen_ok, K2]
    simp [n0, n1, h0, h2, c0, c1]
  find := fun w a es m hm => by
    simp only [Instr.findKey, Sem.run_bind, run_underlying h.hk, Result.andThen_ok]
    cases es with
    | nil =>
      cases m with
      | nil => simp [Instr.findNow]
      | cons _ _ => simp at hm
    | cons e es =>
      have hn : Instr.findNow (.struct #[f0, f1]) (K2 a) (e :: es) 0 = none := by simp [Instr.findNow, Instr.sameNow]
      simp only [hn]
      have := h.asking (w := w) a (e :: es) m 0 hm
      simpa using this
  stays := fun w a => by
    have hb : Instr.sameBits 10000 (K2 a) (K2 a) = true := by
      show Instr.sameBits (9999 + 1) (K2 a) (K2 a) = true
      simp [K2, Instr.sameBits, sameBits_int]
    simp only [Instr.keyThatStays, hb, if_true]; rfl
end
end Go.Proofs.Ytlnihndjepjagaa.Gw
