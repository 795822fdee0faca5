/- The own words of these proofs for a walk: code, loops, calls, results. -/
import Derived.Test.YtlnihndjepjagaaGwC
import Derived.LoopN
set_option linter.unusedVariables false
set_option linter.unusedSimpArgs false
namespace Go.Proofs.Ytlnihndjepjagaa.Gw
open Go Go.RowKit
section
variable {P : Program} {n : Nat} {e : Env} {w : World} {K : Value → World → Prop} {Q : Exit → Act → World → Prop} {ops : Array Oper} {rest : List Oper} {ds : List Deferred}
  {d : Option Nat} {ty : TypeId} {pos : String} {af : Array Edge} {g : Option (Nat × Bool)} {l : List SP}

/-! ### Code -/
theorem C_reg {id : Nat} {lo : List Oper} (h : wpList P lo.toArray Q lo (mkA n e ds) w) : (Code.region id lo.toArray false).wp P Q (mkA n e ds) w := wp_region_lit h
theorem C_seq {x y : Code} (h : ∀ K : Act → World → Prop, (∀ a w, y.wp P Q a w → K a w) → x.wp P (Exit.then K Q) (mkA n e ds) w) : (Code.seq x y).wp P Q (mkA n e ds) w := wp_seq (h _ fun _ _ h => h)
theorem C_block {id : Nat} {c : Code} (h : c.wp P (Exit.inBlock id Q) (mkA n e ds) w) : (Code.block id c).wp P Q (mkA n e ds) w := wp_block h
theorem C_skip (h : Q .normal (mkA n e ds) w) : Code.skip.wp P Q (mkA n e ds) w := wp_skip h
theorem C_exit {id : Nat} (h : Q (.exit id) (mkA n e ds) w) : (Code.exit id).wp P Q (mkA n e ds) w := wp_exit h
theorem C_ret (h : Q .ret (mkA n e ds) w) : Code.ret.wp P Q (mkA n e ds) w := wp_ret h
theorem C_cond {c : Operand} {x y : Code} {b : Bool} (hc : ev n e c = .bool b) (h1 : b = true → x.wp P Q (mkA n e ds) w) (h2 : b = false → y.wp P Q (mkA n e ds) w) : (Code.cond c x y).wp P Q (mkA n e ds) w :=
  wp_cond_split (t := b) (by rw [eval_mkA]; exact hc) h1 h2
theorem C_condP {c : Operand} {x y : Code} {p : Prop} [Decidable p] (hc : ev n e c = .bool (decide p)) (h1 : p → x.wp P Q (mkA n e ds) w) (h2 : ¬ p → y.wp P Q (mkA n e ds) w) : (Code.cond c x y).wp P Q (mkA n e ds) w :=
  C_cond hc (fun h => h1 (of_decide_eq_true h)) (fun h => h2 (of_decide_eq_false h))
theorem C_condT {c : Operand} {x y : Code} (hc : ev n e c = .bool true) (h1 : x.wp P Q (mkA n e ds) w) : (Code.cond c x y).wp P Q (mkA n e ds) w := C_cond hc (fun _ => h1) (fun h => by cases h)
theorem C_condF {c : Operand} {x y : Code} (hc : ev n e c = .bool false) (h1 : y.wp P Q (mkA n e ds) w) : (Code.cond c x y).wp P Q (mkA n e ds) w := C_cond hc (fun h => by cases h) (fun _ => h1)
/-- A cut: what stands in front comes to J, and J is enough for what stands behind. -/
theorem C_cut {x y : Code} (J : Act → World → Prop) (h : x.wp P (Exit.then J Q) (mkA n e ds) w) (k : ∀ a w', J a w' → y.wp P Q a w') : (Code.seq x y).wp P Q (mkA n e ds) w :=
  wp_seq (wp_mono h fun ex a w' hq => by cases ex <;> first | exact k _ _ hq | exact hq)
theorem X_then {J : Act → World → Prop} {a : Act} (h : J a w) : Exit.then J Q .normal a w := h
theorem X_thenX {J : Act → World → Prop} {a : Act} {i : Nat} (h : Q (.exit i) a w) : Exit.then J Q (.exit i) a w := h
theorem X_thenR {J : Act → World → Prop} {a : Act} (h : Q .ret a w) : Exit.then J Q .ret a w := h
theorem X_blkN {a : Act} {id : Nat} (h : Q .normal a w) : Exit.inBlock id Q .normal a w := h
theorem X_blkR {a : Act} {id : Nat} (h : Q .ret a w) : Exit.inBlock id Q .ret a w := h
theorem X_blkHit {a : Act} {id : Nat} (h : Q .normal a w) : Exit.inBlock id Q (.exit id) a w := by simp only [Exit.inBlock, if_true]; exact h
theorem X_blkMiss {a : Act} {id i : Nat} (hn : Nat.beq i id = false) (h : Q (.exit i) a w) : Exit.inBlock id Q (.exit i) a w := by
  have : ¬ i = id := fun he => by subst he; simp at hn
  simp only [Exit.inBlock, this, if_false]; exact h
/-- A loop: what holds at each round's head, said of a thing 'x' of the prover's own, which each round lowers. -/
theorem C_loop {γ : Type} {c : Code} (I : γ → Act → World → Prop) (μ : γ → Nat) (x0 : γ) (h0 : I x0 (mkA n e ds) w)
    (round : ∀ x a w, I x a w → c.wp P (Exit.then (fun a' w' => ∃ x', I x' a' w' ∧ μ x' < μ x) Q) a w) : (Code.loop c).wp P Q (mkA n e ds) w := by
  have key : ∀ (m : Nat) (x : γ) (a : Act) (w : World), μ x = m → I x a w → ∀ (b : Frame) (k : List Item) (cs : List Frame),
      ∃ ex a' w', Q ex a' w' ∧ Arrives P (lone (b.at a (.code c :: .inLoop c :: k)) cs w) b k cs ex a' w' := by
    intro m
    induction m using Nat.strongRecOn with
    | _ m ih =>
      intro x a w hm hI b k cs
      obtain ⟨ex, a₁, w₁, hq, harr⟩ := round x a w hI b (.inLoop c :: k) cs
      cases ex with
      | normal =>
        obtain ⟨x', hI₁, hlt⟩ := hq
        obtain ⟨e₂, a₂, w₂, hq₂, harr₂⟩ := ih (μ x') (hm ▸ hlt) x' a₁ w₁ rfl hI₁ b k cs
        exact ⟨e₂, a₂, w₂, hq₂, .of_steps (Steps.trans harr (.one step_inLoop)) harr₂⟩
      | exit id => exact ⟨_, a₁, w₁, hq, .pass (x := .inLoop c) rfl (fun _ _ => .inl (by simp)) harr⟩
      | goto l => exact ⟨_, a₁, w₁, hq, .pass (x := .inLoop c) rfl (fun _ _ => .inl (by simp)) harr⟩
      | ret => exact ⟨_, a₁, w₁, hq, .pass (x := .inLoop c) rfl (fun _ _ => .inl (by simp)) harr⟩
      | panic ch => exact ⟨_, a₁, w₁, hq, .pass (x := .inLoop c) rfl (fun _ _ => .inl (by simp)) harr⟩
      | outgrown => exact ⟨_, a₁, w₁, hq, .pass (x := .inLoop c) rfl (fun _ _ => .inl (by simp)) harr⟩
  intro b k cs
  obtain ⟨ex, a', w', hq, harr⟩ := key _ x0 _ w rfl h0 b k cs
  exact ⟨ex, a', w', hq, .of_steps (.one step_loop) harr⟩

theorem C_loopN {c : Code} (m : Nat) (h : Code.rounds P c Q m (mkA n e ds) w) : (Code.loop c).wp P Q (mkA n e ds) w := wp_loop_rounds m h
theorem C_rounds {c : Code} {m : Nat} (h : ∀ K : Act → World → Prop, (∀ a w, Code.rounds P c Q m a w → K a w) → c.wp P (Exit.then K Q) (mkA n e ds) w) : Code.rounds P c Q (m + 1) (mkA n e ds) w := h _ fun _ _ h => h

/-! ### Calls -/
def callable (P : Program) (f : FuncId) : Bool := match P.funcs[f]? with
  | some fn => fn.body.isSome && fn.name != "runtime.NumGoroutine"
  | none => false
theorem run_callFunc {f : FuncId} {args : Array Value} (h : callable P f = true) : (callFunc f args).run P w = .ok (.enter f args) w := by
  unfold callable at h
  split at h
  · rename_i fn hf
    simp only [Bool.and_eq_true, bne_iff_ne, ne_eq] at h
    obtain ⟨h1, h2⟩ := h
    have h3 : ¬ fn.body = none := fun hb => by rw [hb] at h1; cases h1
    simp [callFunc, hf, h3, h2]
  · cases h
theorem T_callW {f : FuncId} {x : Operand} {lo : List Operand} {cl al : List Value} {at_ : Array TypeId} (hx : ev n e x = .func (.func f) #[] cl.toArray) (ha : lo.map (ev n e) ++ cl = al)
    (hc : callable P f = true) (h : Calls P f al.toArray w fun r w' => ∃ v, r = .returned v ∧ K v w') : Stp P n e ⟨d, .call { callee := .value x, args := lo.toArray, argTypes := at_ }, ty, pos, af, g⟩ w K := by
  subst ha
  refine .inr (.inr ⟨f, _, w, ?_, h⟩)
  simp only [execOp, resolve, hx, Deferred.ofValue, Sem.run_bind, Sem.run_pure, Result.andThen_ok, invoke]
  simp [run_callFunc hc]
theorem T_call {f : FuncId} {x : Operand} {lo : List Operand} {cl al : List Value} {at_ : Array TypeId} {R : HP} {pre F : List SP} {Qc : Value → List SP → Prop}
    (hx : ev n e x = .func (.func f) #[] cl.toArray) (ha : lo.map (ev n e) ++ cl = al) (hc : callable P f = true) (ht : Tri P f al.toArray R pre Qc) (h : Holds w (ro R :: (pre ++ F)))
    (k : ∀ v post w', Qc v post → Same w w' → Holds w' (ro R :: (post ++ F)) → K v w') : Stp P n e ⟨d, .call { callee := .value x, args := lo.toArray, argTypes := at_ }, ty, pos, af, g⟩ w K :=
  T_callW hx ha hc ((ht w F h).mono fun r w' ⟨v, post, er, q, s, hh⟩ => ⟨v, er, k v post w' q s hh⟩)
/-- A call walked into. -/
theorem Calls.into {f : FuncId} {fn : Func} {c : Code} {args : Array Value} {al : List Value} {R : Ending → World → Prop} (hf : P.funcs[f]? = some fn) (hb : fn.body = some c) (hn : fn.ntmps = n) (ha : args = al.toArray)
    (hl : Nat.ble al.length n = true) (h : c.wp P (bodyPost P fn R) (mkA n (fun t => al.getD t undef) []) w) : Calls P f args w R := by
  subst ha; subst hn
  refine calls_of_wp hf hb ?_
  rw [mkA_args al _ (by simpa using hl)]
  exact h
theorem Tri.into {f : FuncId} {fn : Func} {c : Code} {args : Array Value} {al : List Value} {R : HP} {pre : List SP} {Qc : Value → List SP → Prop} (hf : P.funcs[f]? = some fn) (hb : fn.body = some c) (hn : fn.ntmps = n)
    (ha : args = al.toArray) (hl : Nat.ble al.length n = true)
    (h : ∀ w F, Holds w (ro R :: (pre ++ F)) → c.wp P (bodyPost P fn fun r w' => ∃ v post, r = .returned v ∧ Qc v post ∧ Same w w' ∧ Holds w' (ro R :: (post ++ F))) (mkA n (fun t => al.getD t undef) []) w) :
    Tri P f args R pre Qc := fun w F hh => Calls.into hf hb hn ha hl (h w F hh)

/-! ### Results -/
theorem ev_getD (t : Nat) : (mkA n e ds).tmps.getD t undef = ev n e (.tmp t) := congrFun (eval_mkA n e ds) (.tmp t)
theorem ev_getO (t : Nat) : (mkA n e ds).tmps[t]?.getD undef = ev n e (.tmp t) := by
  rw [← ev_getD (ds := ds)]; simp
theorem R_0 {fn : Func} {R : Ending → World → Prop} (hr : fn.results = #[]) (h : R (.returned (.tuple #[])) w) : bodyPost P fn R .normal (mkA n e []) w :=
  bodyPost_end (results_none hr _ _ _) (mkA_defers ..) h
theorem R_0r {fn : Func} {R : Ending → World → Prop} (hr : fn.results = #[]) (h : R (.returned (.tuple #[])) w) : bodyPost P fn R .ret (mkA n e []) w :=
  bodyPost_ret (results_none hr _ _ _) (mkA_defers ..) h
theorem R_1 {fn : Func} {R : Ending → World → Prop} {t : Nat} {v : Value} (hr : fn.results = #[.tmp t]) (hv : ev n e (.tmp t) = v) (h : R (.returned v) w) : bodyPost P fn R .ret (mkA n e []) w :=
  bodyPost_ret (v := v) (by rw [results_tmp hr, ev_getD, hv]) (mkA_defers ..) h
theorem R_2 {fn : Func} {R : Ending → World → Prop} {t u : Nat} {v x : Value} (hr : fn.results = #[.tmp t, .tmp u]) (hv : ev n e (.tmp t) = v) (hx : ev n e (.tmp u) = x) (h : R (.returned (.tuple #[v, x])) w) :
    bodyPost P fn R .ret (mkA n e []) w :=
  bodyPost_ret (v := .tuple #[v, x]) (by rw [results_tmp2 hr, ev_getD, ev_getD, hv, hx]) (mkA_defers ..) h
/-- One result, or several, as they lie: temporaries and variables. -/
theorem R_any {fn : Func} {R : Ending → World → Prop} {v : Value} (hr : (results fn (mkA n e []).tmps).run P w = .ok v w) (h : R (.returned v) w) : bodyPost P fn R .ret (mkA n e []) w :=
  bodyPost_ret hr (mkA_defers ..) h
theorem run_res_tmp (t : Nat) {v : Value} (hv : ev n e (.tmp t) = v) : (match (ResultVar.tmp t) with | .tmp t => (pure ((mkA n e ds).tmps.getD t undef) : Sem Value) | .cell a t => do loadVar t (← asAddr ((mkA n e ds).tmps.getD a undef))).run P w = .ok v w := by
  subst hv; simp only [ev_getD]; rfl
def resRun (P : Program) (n : Nat) (e : Env) (w : World) : ResultVar → Value → Prop
  | .tmp t, v => ev n e (.tmp t) = v
  | .cell a t, v => ∃ p, ev n e (.tmp a) = .pointer (some p) ∧ (loadVar t p).run P w = .ok v w
theorem run_results1 {fn : Func} {r : ResultVar} {v : Value} (hr : fn.results = #[r]) (h : resRun P n e w r v) : (results fn (mkA n e ds).tmps).run P w = .ok v w := by
  cases r with
  | tmp t => rw [results_tmp hr, ev_getD]; simp only [resRun] at h; rw [h]
  | cell a t =>
    obtain ⟨p, h1, h2⟩ := h
    simp [results, hr, ev_getO, h1, asAddr, h2]
theorem run_results2 {fn : Func} {r s : ResultVar} {v u : Value} (hr : fn.results = #[r, s]) (h : resRun P n e w r v) (h' : resRun P n e w s u) : (results fn (mkA n e ds).tmps).run P w = .ok (.tuple #[v, u]) w := by
  cases r <;> cases s <;> simp only [resRun] at h h'
  · simp [results, hr, ev_getO, h, h']
  · obtain ⟨p, h1, h2⟩ := h'; simp [results, hr, ev_getO, h, h1, asAddr, h2]
  · obtain ⟨p, h1, h2⟩ := h; simp [results, hr, ev_getO, h', h1, asAddr, h2]
  · obtain ⟨p, h1, h2⟩ := h; obtain ⟨p', h1', h2'⟩ := h'; simp [results, hr, ev_getO, h1, h1', asAddr, h2, h2']
theorem run_results3 {fn : Func} {r s t : ResultVar} {v u x : Value} (hr : fn.results = #[r, s, t]) (h : resRun P n e w r v) (h' : resRun P n e w s u) (h'' : resRun P n e w t x) :
    (results fn (mkA n e ds).tmps).run P w = .ok (.tuple #[v, u, x]) w := by
  cases r <;> cases s <;> cases t <;> simp only [resRun] at h h' h'' <;> (try obtain ⟨p, h1, h2⟩ := h) <;> (try obtain ⟨p', h1', h2'⟩ := h') <;> (try obtain ⟨p'', h1'', h2''⟩ := h'') <;>
    simp_all [results, ev_getO, asAddr]
theorem load_res1 {t : TypeId} {u : TypeDesc} {p : Addr} {v : Value} (hu : P.underlying t = some u) (hd : aggD u = false) (hc : w.cell? p = some v) : (loadVar t p).run P w = .ok v w := by
  have := run_loadAt1 (P := P) (w := w) hu hd hc
  simpa [Instr.loadAt, Instr.sureAddr] using this
theorem load_resN {t s b : Nat} {z : Option Value} {u : TypeDesc} {p : Addr} {vs : List Value} (hu : P.underlying t = some u) (hd : aggD u = true) (hz : tin P t = some (s, b, z)) (hl : vs.length = s)
    (hc : ∀ j v, vs[j]? = some v → w.cell? (p.add j) = some v) : (loadVar t p).run P w = .ok (.agg vs.toArray) w := by
  have := run_loadAtN (P := P) (w := w) hu hd hz hl hc
  simpa [Instr.loadAt, Instr.sureAddr] using this
end
end Go.Proofs.Ytlnihndjepjagaa.Gw
