/- The own words of these proofs for a walk: a frame as a function of its slots, and what single operations do. -/
import Derived.Test.YtlnihndjepjagaaGwA
import Derived.IntWalk
set_option linter.unusedVariables false
set_option linter.unusedSimpArgs false
namespace Go.Proofs.Ytlnihndjepjagaa.Gw
open Go Go.RowKit

abbrev Env := Nat → Value
def upd (e : Env) (d : Nat) (v : Value) : Env := fun t => bif Nat.beq t d then v else e t
def mkA (n : Nat) (e : Env) (ds : List Deferred) : Act := ⟨Array.ofFn (n := n) fun i => e i, ds⟩
def ev (n : Nat) (e : Env) : Operand → Value
  | .tmp t => bif Nat.blt t n then e t else undef
  | .const v => v
  | .global g => .pointer (some ⟨g, 0, none⟩)
  | .func f => .func (.func f) #[] #[]
theorem upd_same (e : Env) (d : Nat) (v : Value) : upd e d v d = v := by simp [upd]
theorem upd_ne (e : Env) {d t : Nat} (v : Value) (h : t ≠ d) : upd e d v t = e t := by
  simp only [upd]
  have : Nat.beq t d = false := by
    cases hb : Nat.beq t d with
    | false => rfl
    | true => exact absurd (Nat.eq_of_beq_eq_true hb) h
  rw [this]; rfl
theorem upd_id {e : Env} {d : Nat} {v : Value} (h : e d = v) : upd e d v = e := by
  funext t
  by_cases ht : t = d
  · subst ht; rw [upd_same, h]
  · rw [upd_ne e v ht]
theorem ch {E C : Env} {d : Nat} {v : Value} (h : E = C) (hv : E d = v) : E = upd C d v := by subst h; exact (upd_id hv).symm
theorem eval_mkA (n : Nat) (e : Env) (ds : List Deferred) : (mkA n e ds).eval = ev n e := by
  funext x
  cases x with
  | tmp t =>
    simp only [Act.eval, mkA, ev]
    by_cases h : t < n
    · have h' : Nat.blt t n = true := by simpa using h
      rw [h']
      simp [Array.getD, h]
    · have h' : Nat.blt t n = false := by
        cases hb : Nat.blt t n with
        | false => rfl
        | true => exact absurd (by simpa using hb) h
      rw [h']
      simp [Array.getD, h]
  | const v => rfl
  | global g => rfl
  | func f => rfl
theorem put_mkA (n : Nat) (e : Env) (ds : List Deferred) (d : Nat) (v : Value) : (mkA n e ds).put (some d) v = mkA n (upd e d v) ds := by
  simp only [Act.put, mkA]
  congr 1
  apply Array.ext
  · simp
  · intro i h1 h2
    simp only [Array.getElem_ofFn]
    by_cases h : d = i
    · subst h; rw [upd_same]; simp
    · rw [upd_ne _ _ (Ne.symm h), Array.getElem_setIfInBounds_ne (by simpa using h2) h, Array.getElem_ofFn]
theorem mkA_args (al : List Value) (n : Nat) (h : al.length ≤ n) :
    ({ tmps := al.toArray ++ Array.replicate (n - al.toArray.size) undef, defers := [] } : Act) = mkA n (fun t => al.getD t undef) [] := by
  unfold mkA
  congr 1
  apply Array.ext
  · simp; omega
  · intro i h1 h2
    simp only [Array.getElem_ofFn, List.getD]
    by_cases hi : i < al.length
    · rw [Array.getElem_append_left (by simpa using hi)]
      simp [hi]
    · rw [Array.getElem_append_right (by simpa using hi)]
      simp [hi]

/-! ### One operation -/
def Stp (P : Program) (n : Nat) (e : Env) (o : Oper) (w : World) (K : Value → World → Prop) : Prop :=
  (∃ v w', (execOp (ev n e) o).run P w = .ok (.value v) w' ∧ K v w') ∨
  (∃ w', (execOp (ev n e) o).run P w = .ok .skip w' ∧ K undef w') ∨
  (∃ f args w', (execOp (ev n e) o).run P w = .ok (.enter f args) w' ∧ Calls P f args w' fun r w'' => ∃ v, r = .returned v ∧ K v w'')
section
variable {P : Program} {n : Nat} {e : Env} {w : World} {K : Value → World → Prop} {Q : Exit → Act → World → Prop} {ops : Array Oper} {rest : List Oper} {ds : List Deferred}
  {d : Option Nat} {ty : TypeId} {pos : String} {af : Array Edge} {g : Option (Nat × Bool)}

theorem Stp.wp {o : Oper} {K' : Act → World → Prop} (h : Stp P n e o w fun v w' => K' ((mkA n e ds).put o.dst v) w') : o.wp P (mkA n e ds) w K' Q := by
  unfold Oper.wp
  rw [eval_mkA]
  rcases h with ⟨v, w', hr, hk⟩ | ⟨w', hr, hk⟩ | ⟨f, args, w', hr, hk⟩
  · rw [hr]; exact hk
  · rw [hr]; exact hk
  · rw [hr]
    show Calls P f args w' _
    exact hk.mono fun r w'' ⟨v, er, hv⟩ => by subst er; exact hv
theorem S_list {dd : Nat} {op : Op} (h : Stp P n e ⟨some dd, op, ty, pos, af, none⟩ w fun v w' => wpList P ops Q rest (mkA n (upd e dd v) ds) w') :
    wpList P ops Q (⟨some dd, op, ty, pos, af, none⟩ :: rest) (mkA n e ds) w :=
  wpList_plain rfl fun K' hK => Stp.wp (by
    refine Or.elim h (fun ⟨v, w', hr, hk⟩ => .inl ⟨v, w', hr, ?_⟩) fun h => h.elim (fun ⟨w', hr, hk⟩ => .inr (.inl ⟨w', hr, ?_⟩)) fun ⟨f, args, w', hr, hk⟩ => .inr (.inr ⟨f, args, w', hr, ?_⟩)
    · dsimp only; rw [put_mkA]; exact hK _ _ hk
    · dsimp only; rw [put_mkA]; exact hK _ _ hk
    · exact hk.mono fun r w'' ⟨v, er, hv⟩ => ⟨v, er, by dsimp only; rw [put_mkA]; exact hK _ _ hv⟩)
theorem S_list0 {op : Op} (h : Stp P n e ⟨none, op, ty, pos, af, none⟩ w fun _ w' => wpList P ops Q rest (mkA n e ds) w') :
    wpList P ops Q (⟨none, op, ty, pos, af, none⟩ :: rest) (mkA n e ds) w :=
  wpList_plain rfl fun K' hK => Stp.wp (by
    refine Or.elim h (fun ⟨v, w', hr, hk⟩ => .inl ⟨v, w', hr, hK _ _ hk⟩) fun h => h.elim (fun ⟨w', hr, hk⟩ => .inr (.inl ⟨w', hr, hK _ _ hk⟩)) fun ⟨f, args, w', hr, hk⟩ => .inr (.inr ⟨f, args, w', hr, ?_⟩)
    exact hk.mono fun r w'' ⟨v, er, hv⟩ => ⟨v, er, hK _ _ hv⟩)

/-- A guard: what the slot says on which it hangs. -/
theorem yielded_mkA {lo : List Oper} {j dj : Nat} {b : Bool} (hj : (lo[j]?).bind (·.dst) = some dj) (hn : Nat.blt dj n = true) (hb : e dj = .bool b) : yielded lo.toArray (mkA n e ds).tmps j = some b := by
  unfold yielded
  rw [List.getElem?_toArray, hj]
  have hn' : dj < n := by simpa using hn
  simp only [Option.bind_some, mkA]
  simp [hn', hb]
theorem S_yes {lo : List Oper} {dd j dj : Nat} {b : Bool} {op : Op} (hj : (lo[j]?).bind (·.dst) = some dj) (hn : Nat.blt dj n = true) (hb : e dj = .bool b)
    (h : Stp P n e ⟨some dd, op, ty, pos, af, some (j, b)⟩ w fun v w' => wpList P lo.toArray Q rest (mkA n (upd e dd v) ds) w') :
    wpList P lo.toArray Q (⟨some dd, op, ty, pos, af, some (j, b)⟩ :: rest) (mkA n e ds) w :=
  wpList_step fun K' hK => by
    rw [if_pos (by simp [Region.wanted, yielded_mkA (ds := ds) hj hn hb])]
    refine Stp.wp ?_
    refine Or.elim h (fun ⟨v, w', hr, hk⟩ => .inl ⟨v, w', hr, ?_⟩) fun h => h.elim (fun ⟨w', hr, hk⟩ => .inr (.inl ⟨w', hr, ?_⟩)) fun ⟨f, args, w', hr, hk⟩ => .inr (.inr ⟨f, args, w', hr, ?_⟩)
    · dsimp only; rw [put_mkA]; exact hK _ _ hk
    · dsimp only; rw [put_mkA]; exact hK _ _ hk
    · exact hk.mono fun r w'' ⟨v, er, hv⟩ => ⟨v, er, by dsimp only; rw [put_mkA]; exact hK _ _ hv⟩
theorem S_no {lo : List Oper} {dd j dj : Nat} {b c : Bool} {op : Op} (hj : (lo[j]?).bind (·.dst) = some dj) (hn : Nat.blt dj n = true) (hb : e dj = .bool b) (hc : b ≠ c)
    (h : wpList P lo.toArray Q rest (mkA n (upd e dd undef) ds) w) :
    wpList P lo.toArray Q (⟨some dd, op, ty, pos, af, some (j, c)⟩ :: rest) (mkA n e ds) w :=
  wpList_step fun K' hK => by
    rw [if_neg (by simp [Region.wanted, yielded_mkA (ds := ds) hj hn hb, hc])]
    dsimp only
    rw [put_mkA]
    exact hK _ _ h
/-- A guarded operation that only computes: no way is parted. -/
theorem S_maybe {lo : List Oper} {dd j dj : Nat} {b c : Bool} {op : Op} {v : Value} (hj : (lo[j]?).bind (·.dst) = some dj) (hn : Nat.blt dj n = true) (hb : e dj = .bool b)
    (hv : b = c → (execOp (ev n e) ⟨some dd, op, ty, pos, af, some (j, c)⟩).run P w = .ok (.value v) w)
    (h : wpList P lo.toArray Q rest (mkA n (upd e dd (bif b == c then v else undef)) ds) w) :
    wpList P lo.toArray Q (⟨some dd, op, ty, pos, af, some (j, c)⟩ :: rest) (mkA n e ds) w := by
  by_cases hc : b = c
  · subst hc
    refine S_yes hj hn hb (.inl ⟨v, w, hv rfl, ?_⟩)
    simpa using h
  · refine S_no hj hn hb hc ?_
    have : (b == c) = false := by simpa using hc
    rw [this] at h
    exact h

/-! ### Values -/
def tin (P : Program) (t : TypeId) : Option (Nat × Nat × Option Value) := (P.info? t).map fun i => (i.size, i.bytes, i.zero)
theorem tin_info {t s b : Nat} {z : Option Value} (h : tin P t = some (s, b, z)) : ∃ i, P.info? t = some i ∧ i.size = s ∧ i.bytes = b ∧ i.zero = z := by
  unfold tin at h
  cases hi : P.info? t with
  | none => rw [hi] at h; cases h
  | some i => rw [hi] at h; simp at h; exact ⟨i, rfl, h.1, h.2.1, h.2.2⟩
theorem run_typeInfo {t : TypeId} {i : TypeInfo} (h : P.info? t = some i) : (typeInfo t).run P w = .ok i w := by
  simp [typeInfo, h]
theorem run_underlying {t : TypeId} {u : TypeDesc} (h : P.underlying t = some u) : (underlying t).run P w = .ok u w := by
  simp [underlying, h]
theorem run_sizeOf {t s b : Nat} {z : Option Value} (h : tin P t = some (s, b, z)) : (sizeOf t).run P w = .ok s w := by
  obtain ⟨i, hi, h1, _, _⟩ := tin_info h
  simp [sizeOf, run_typeInfo hi, h1]
theorem run_zeroValue {t s b : Nat} {z : Value} (h : tin P t = some (s, b, some z)) : (zeroValue t).run P w = .ok z w := by
  obtain ⟨i, hi, _, _, h3⟩ := tin_info h
  simp [zeroValue, run_typeInfo hi, h3]
def aggD : TypeDesc → Bool
  | .struct _ | .array _ _ => true
  | _ => false
theorem run_isAgg {t : TypeId} {u : TypeDesc} (h : P.underlying t = some u) : (isAgg t).run P w = .ok (aggD u) w := by
  simp only [isAgg, Sem.run_bind, run_underlying h, Result.andThen_ok]
  cases u <;> rfl

theorem T_val {o : Oper} {v : Value} (h : (execOp (ev n e) o).run P w = .ok (.value v) w) (k : K v w) : Stp P n e o w K := .inl ⟨v, w, h, k⟩
theorem sv {dd : Nat} {op : Op} {v : Value} (h : (execOp (ev n e) ⟨some dd, op, ty, pos, af, none⟩).run P w = .ok (.value v) w) (k : wpList P ops Q rest (mkA n (upd e dd v) ds) w) : wpList P ops Q (⟨some dd, op, ty, pos, af, none⟩ :: rest) (mkA n e ds) w := S_list (T_val h k)
theorem T_of {o : Oper} {v : Value} {w' : World} (h : (execOp (ev n e) o).run P w = .ok (.value v) w') (k : K v w') : Stp P n e o w K := .inl ⟨v, w', h, k⟩
theorem run_v (s : Sem Value) {v : Value} {w' : World} (h : s.run P w = .ok v w') : (do pure (Next.value (← s)) : Sem Next).run P w = .ok (.value v) w' := by
  simp [h]

theorem x_move {x : Operand} {v : Value} (h : ev n e x = v) : (execOp (ev n e) ⟨d, .move x, ty, pos, af, g⟩).run P w = .ok (.value v) w := by subst h; rfl
theorem x_assign {x : Operand} {v : Value} (h : ev n e x = v) : (execOp (ev n e) ⟨d, .assign x, ty, pos, af, g⟩).run P w = .ok (.value v) w := by subst h; rfl
theorem T_move {x : Operand} {v : Value} (h : ev n e x = v) (k : K v w) : Stp P n e ⟨d, .move x, ty, pos, af, g⟩ w K := T_val (x_move h) k
theorem T_assign {x : Operand} {v : Value} (h : ev n e x = v) (k : K v w) : Stp P n e ⟨d, .assign x, ty, pos, af, g⟩ w K := T_val (x_assign h) k
theorem x_pick {c x y : Operand} {b : Bool} {v u : Value} (hc : ev n e c = .bool b) (hx : ev n e x = v) (hy : ev n e y = u) :
    (execOp (ev n e) ⟨d, .pick c x y, ty, pos, af, g⟩).run P w = .ok (.value (if b then v else u)) w := by
  subst hx; subst hy
  simp only [execOp, hc]
  simp [asBool]
/-- a && b, a || b: the guarded one is there just if it is asked for. -/
theorem x_and {c x y : Operand} {b q : Bool} (hc : ev n e c = .bool b) (hx : ev n e x = (bif b == true then .bool q else undef)) (hy : ev n e y = .bool false) :
    (execOp (ev n e) ⟨d, .pick c x y, ty, pos, af, g⟩).run P w = .ok (.value (.bool (b && q))) w := by
  rw [x_pick hc hx hy]
  cases b <;> rfl
theorem x_or {c x y : Operand} {b q : Bool} (hc : ev n e c = .bool b) (hx : ev n e x = .bool true) (hy : ev n e y = (bif b == false then .bool q else undef)) :
    (execOp (ev n e) ⟨d, .pick c x y, ty, pos, af, g⟩).run P w = .ok (.value (.bool (b || q))) w := by
  rw [x_pick hc hx hy]
  cases b <;> rfl
theorem T_and {c x y : Operand} {b q : Bool} (hc : ev n e c = .bool b) (hx : ev n e x = (bif b == true then .bool q else undef)) (hy : ev n e y = .bool false) (k : K (.bool (b && q)) w) :
    Stp P n e ⟨d, .pick c x y, ty, pos, af, g⟩ w K := T_val (x_and hc hx hy) k
theorem T_or {c x y : Operand} {b q : Bool} (hc : ev n e c = .bool b) (hx : ev n e x = .bool true) (hy : ev n e y = (bif b == false then .bool q else undef)) (k : K (.bool (b || q)) w) :
    Stp P n e ⟨d, .pick c x y, ty, pos, af, g⟩ w K := T_val (x_or hc hx hy) k
theorem T_pickT {c x y : Operand} {v : Value} (hc : ev n e c = .bool true) (hx : ev n e x = v) (k : K v w) : Stp P n e ⟨d, .pick c x y, ty, pos, af, g⟩ w K :=
  T_val (by simpa using x_pick (P := P) (w := w) (d := d) (ty := ty) (pos := pos) (af := af) (g := g) hc hx (rfl : ev n e y = ev n e y)) k
theorem T_pickF {c x y : Operand} {v : Value} (hc : ev n e c = .bool false) (hy : ev n e y = v) (k : K v w) : Stp P n e ⟨d, .pick c x y, ty, pos, af, g⟩ w K :=
  T_val (by simpa using x_pick (P := P) (w := w) (d := d) (ty := ty) (pos := pos) (af := af) (g := g) hc (rfl : ev n e x = ev n e x) hy) k

/-- What a binary operation on whole numbers gives; none: it may panic. -/
def ibin (op : BinOp) (k : IntKind) (a b : Int) : Option Value :=
  match op with
  | .add => some (.int k (k.wrap (a + b)))
  | .sub => some (.int k (k.wrap (a - b)))
  | .mul => some (.int k (k.wrap (a * b)))
  | .quo => if b = 0 then none else some (.int k (k.wrap (a.tdiv b)))
  | .rem => if b = 0 then none else some (.int k (a.tmod b))
  | .and => some (.int k (k.wrap (BitVec.ofInt k.bits a &&& BitVec.ofInt k.bits b).toNat))
  | .or => some (.int k (k.wrap (BitVec.ofInt k.bits a ||| BitVec.ofInt k.bits b).toNat))
  | .xor => some (.int k (k.wrap (BitVec.ofInt k.bits a ^^^ BitVec.ofInt k.bits b).toNat))
  | .andNot => some (.int k (k.wrap (BitVec.ofInt k.bits a &&& ~~~BitVec.ofInt k.bits b).toNat))
  | .eql => some (.bool (decide (a = b)))
  | .neq => some (.bool (decide (a ≠ b)))
  | .lss => some (.bool (decide (a < b)))
  | .leq => some (.bool (decide (a ≤ b)))
  | .gtr => some (.bool (decide (b < a)))
  | .geq => some (.bool (decide (b ≤ a)))
  | _ => none
def iand (k : IntKind) (a b : Int) : Int := k.wrap (BitVec.ofInt k.bits a &&& BitVec.ofInt k.bits b).toNat
def ior (k : IntKind) (a b : Int) : Int := k.wrap (BitVec.ofInt k.bits a ||| BitVec.ofInt k.bits b).toNat
def ixor (k : IntKind) (a b : Int) : Int := k.wrap (BitVec.ofInt k.bits a ^^^ BitVec.ofInt k.bits b).toNat
theorem run_eqGuard_int {op : BinOp} {t : TypeId} {x y : Operand} {k k' : IntKind} {a b : Int} : (eqGuard op t x y (.int k a) (.int k' b)).run P w = .ok () w := by
  unfold eqGuard
  cases op <;> rfl
theorem x_bin {op : BinOp} {t u : TypeId} {x y : Operand} {k : IntKind} {a b : Int} {v : Value} (hx : ev n e x = .int k a) (hy : ev n e y = .int k b) (hv : ibin op k a b = some v) :
    (execOp (ev n e) ⟨d, .binOp op t x y u, ty, pos, af, g⟩).run P w = .ok (.value v) w := by
  simp only [execOp]
  refine run_v _ ?_
  rw [hx, hy]
  simp only [Sem.run_bind, run_eqGuard_int, Result.andThen_ok]
  cases op <;> simp only [ibin, reduceCtorEq, Option.some.injEq] at hv <;>
    first
    | (subst hv; simp [binOp, Op.intArith, Op.intBits, Op.intCmp]; done)
    | (subst hv; simp only [binOp, Op.intCmp, ne_eq, not_true, if_false, Sem.run_pure]; by_cases h : a = b <;> simp [h]; done)
    | (split at hv
       · cases hv
       · rename_i hb; cases hv; simp [binOp, Op.intDiv, hb])
theorem T_bin {op : BinOp} {t u : TypeId} {x y : Operand} {k : IntKind} {a b : Int} {v : Value} (hx : ev n e x = .int k a) (hy : ev n e y = .int k b) (hv : ibin op k a b = some v) (k' : K v w) :
    Stp P n e ⟨d, .binOp op t x y u, ty, pos, af, g⟩ w K := T_val (x_bin hx hy hv) k'
theorem ib_add {k : IntKind} {a b : Int} (h : k.wrap (a + b) = a + b) : ibin .add k a b = some (.int k (a + b)) := by simp [ibin, h]
theorem ib_sub {k : IntKind} {a b : Int} (h : k.wrap (a - b) = a - b) : ibin .sub k a b = some (.int k (a - b)) := by simp [ibin, h]
theorem ib_mul {k : IntKind} {a b : Int} (h : k.wrap (a * b) = a * b) : ibin .mul k a b = some (.int k (a * b)) := by simp [ibin, h]
theorem wrap_i64 {n : Int} (h1 : -9223372036854775808 ≤ n) (h2 : n ≤ 9223372036854775807) : IntKind.wrap .i64 n = n := by
  have e1 : (2 : Int) ^ 64 = 18446744073709551616 := by decide
  have e2 : (2 : Int) ^ (64 - 1) = 9223372036854775808 := by decide
  simp only [IntKind.wrap, IntKind.bits, IntKind.signed, e1, e2, Bool.true_and, decide_eq_true_eq]
  split <;> omega
end
theorem mkA_defers (n : Nat) (e : Env) (ds : List Deferred) : (mkA n e ds).defers = ds := rfl
theorem mkA_defer (n : Nat) (e : Env) (ds : List Deferred) (d : Deferred) : ({ tmps := (mkA n e ds).tmps, defers := d :: (mkA n e ds).defers } : Act) = mkA n e (d :: ds) := rfl
attribute [irreducible] mkA
end Go.Proofs.Ytlnihndjepjagaa.Gw
