/- From what a law's call comes to, to the row that says so: for every law whose arguments are read alone. -/
import Derived.Test.YtlnihndjepjagaaGwG
import Derived.ProofKit
import Derived.SizedLaws
import Derived.Carry
set_option linter.unusedVariables false
set_option linter.unusedSimpArgs false
namespace Go.Proofs.Ytlnihndjepjagaa.Gw
open Go Go.RowKit Go.ChangeShapes Go.WideShapes Go.ChangeAt
theorem trodAll_stays {H : Type} {enc : TypeId × Value → H} {P : Program} (hl : laidOutB P = true) {W W' : World} (hb : Below W.heap.size W W') :
    ∀ (ts : List TypeId) (vs : List Value) (ds : List (DataW H)) (ps : List MemPlace), (ts.all fun t => P.readableRec t && decide (t < P.types.size)) = true →
      DataW.TrodAll enc P W 0 (fun _ => true) true ts vs ds ps → (∀ x ∈ ps, x.block < W.heap.size) → DataW.TrodAll enc P W' 0 (fun b => decide (b < W.heap.size)) true ts vs ds ps
  | [], [], [], ps, _, h, _ => h
  | t :: ts, v :: vs, d :: ds, ps, hts, h, hlt => by
    obtain ⟨p, q, h1, h2, rfl⟩ := h
    simp only [List.all_cons, Bool.and_eq_true, decide_eq_true_eq] at hts
    exact ⟨p, q, Below.trod hl hts.1.1 hts.1.2 h1 hb (fun x hx => hlt x (by simp [hx])), trodAll_stays hl hb ts vs ds q (by simpa using hts.2) h2 (fun x hx => hlt x (by simp [hx])), rfl⟩
  | [], [], _ :: _, _, _, h, _ => h.elim
  | [], _ :: _, _, _, _, h, _ => h.elim
  | _ :: _, [], _, _, _, h, _ => h.elim
  | _ :: _, _ :: _, [], _, _, h, _ => h.elim
theorem below_of_holds {W W' : World} {l : List SP} (hs : Same W W') (h : Holds W' (ro (hp W) :: l)) : Below W.heap.size W W' := by
  have hb := h.ro_sub 0 rfl
  have hblk : ∀ k, k < W.heap.size → W'.heap[k]? = W.heap[k]? := fun k hk => by
    have e : hp W k = some W.heap[k] := by simp [hp, hk]
    have := hb k _ e
    simp only [hp] at this
    rw [this]; simp [hk]
  refine ⟨hs.os, hs.tape, hs.output, ?_, hblk⟩
  rcases Nat.lt_or_ge W'.heap.size W.heap.size with h' | h'
  · have := hblk W'.heap.size h'
    rw [Array.getElem?_eq_none (Nat.le_refl _), Array.getElem?_eq_getElem h'] at this
    cases this
  · exact h'
theorem holds_init (W : World) : Holds W [ro (hp W)] :=
  ⟨hp W, (fun _ => none), Sub.rfl' _, (fun _ _ e => by cases e), (fun _ => Or.inr rfl), Sub.rfl' _, trivial⟩
theorem law_calls {P : Program} {f : FuncId} {args : Array Value} {W : World} (h : Tri P f args (hp W) [] fun v post => v = .bool true) :
    Calls P f args W fun e W' => e = .returned (.bool true) ∧ Below W.heap.size W W' :=
  (h W [] (holds_init W)).mono fun e W' ⟨v, post, he, hv, hs, hh⟩ => ⟨by rw [he, hv], below_of_holds hs hh⟩
theorem law_lift {H : Type} {enc : TypeId × Value → H} {C : Checked} {os : Os} {f : FuncId} {fn : Func} {s : ChangeSpec} {tb : TypeId} (own : ownKnob C.prog.godebug = none) (started : os.Started)
    (noInit : C.prog.inits.idxOf? f = none) (hfn : C.prog.funcs[f]? = some fn)
    (witness : ∃ (w : World) (tape : Tape) (i : Input), w.os = os ∧ (w.forCall tape i).Shaped C.prog ∧ i.vars = [] ∧ Input.okWide C.prog (w.forCall tape i) .any w.heap.size f i ∧
      s.pre6 enc C.prog fn [] false (w.forCall tape i).memory i.args ∧ Assume.holds {} C.prog (lone (Frame.enter C.prog f i.args .normal) [] (w.forCall tape i)))
    (hl : laidOutB C.prog = true) (hts : (fn.params.toList.all fun t => C.prog.readableRec t && decide (t < C.prog.types.size)) = true) (hv : s.vars = []) (hrt : fn.resultTypes = #[tb]) (htb : C.prog.underlying tb = some .bool)
    (hs : ∀ ds : List (DataW H), ds.length = fn.params.size → s.fn H ds = { results := [.lit (.bool true)], args := ds })
    (contract : ∀ (W : World) (base : Nat) (args : Array Value) (ds : List (DataW H)) (before : List MemPlace),
      (∀ (j : Nat) t v, fn.params[j]? = some t → args[j]? = some v → Value.okWide C.prog W .any base t v) → DataW.TrodAll enc C.prog W 0 (fun _ => true) true fn.params.toList args.toList ds before →
      (DataW.weightsEach C.prog fn.params.toList ds).all (· ≤ reachBytes) = true →
      Calls C.prog f args W fun e W' => e = .returned (.bool true) ∧ Below W.heap.size W W') :
    ReturnsInHanded {} C os f .any (s.pre6 enc C.prog fn [] false) (s.post enc C.prog fn false true false false) := by
  refine returnsInHanded_of_change_sized own started noInit hfn witness ?_
  intro W base args ds gs before hval hW _ hsz _
  have hW' := hW
  obtain ⟨p, q, hA, hV, rfl, hfz, hnd⟩ := hW
  rw [hv] at hV
  have hgs : gs = [] ∧ q = [] := trodVars_none hV
  obtain ⟨rfl, rfl⟩ := hgs
  have hvt : s.plain.varTypes C.prog = [] := by
    simp only [ChangeSpec.plain, DataSpec.varTypes, hv]
    rfl
  rw [hvt] at hsz
  simp only [List.append_nil] at hsz hW'
  refine (contract W base args ds p hval hA hsz).mono fun e W' ⟨he, hb⟩ => ⟨.bool true, he, ?_⟩
  have hlen : ∀ (ts : List TypeId) (vs : List Value) (ds : List (DataW H)) (ps : List MemPlace), DataW.TrodAll enc C.prog W 0 (fun _ => true) true ts vs ds ps → ds.length = ts.length := by
    intro ts
    induction ts with
    | nil => intro vs ds ps h; cases vs <;> cases ds <;> first | rfl | exact h.elim
    | cons t ts ih =>
      intro vs ds ps h
      cases vs with
      | nil => exact h.elim
      | cons v vs =>
        cases ds with
        | nil => exact h.elim
        | cons d ds => obtain ⟨p, q, _, h2, _⟩ := h; simp [ih vs ds q h2]
  have hd : s.fn H (ds ++ []) = { results := [.lit (.bool true)], args := ds } := by
    rw [List.append_nil]
    exact hs ds (by simpa using hlen _ _ _ _ hA)
  refine ⟨ds, [], p, [], p, [], hW', ?_, ?_, ?_, hb.frame _, fun h => by cases h⟩
  · rw [hd, hrt]
    exact trodAll_mk1 (shut_bool htb true)
  · rw [hd]
    exact trodAll_stays hl hb _ _ _ _ hts hA (fun x hx => hW'.lt x hx)
  · rw [hd, hv]
    rfl
end Go.Proofs.Ytlnihndjepjagaa.Gw
