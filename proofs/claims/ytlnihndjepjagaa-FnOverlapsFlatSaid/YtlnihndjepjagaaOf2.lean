/- Words, and proved steps, on which the proof leans. -/
import Derived.LaidEqlPtr
import Derived.Test.YtlnihndjepjagaaOf1
set_option linter.unusedVariables false
set_option linter.unusedSimpArgs false
namespace Go.Proofs.Ytlnihndjepjagaa
open Go Go.RowKit Gw
open Go.Value renaming int → vI, bool → vB, slice → vS, pointer → vP, agg → vA, tuple → vT

/-! ### Blocks whose cells no text shares -/
section
variable {P : Program} {n : Nat} {e : Env} {w : World} {K : Value → World → Prop} {d : Option Nat} {ty : TypeId} {pos : String} {af : Array Edge} {g : Option (Nat × Bool)} {l : List SP}
theorem Holds.clf_block (h : Holds w l) (i : Nat) {b : Nat} {T : TypeId} {cs : List Value} (hi : l[i]? = some (clf b T cs)) : w.heap[b]? = some (.cells cs.toArray T (0, 0)) := by
  obtain ⟨h', s, e⟩ := Sat.at i hi h
  exact s _ _ e
theorem Holds.clf_cell (h : Holds w l) (i : Nat) {b : Nat} {T : TypeId} {cs : List Value} (hi : l[i]? = some (clf b T cs)) {k : Nat} {v : Value} (hk : cs[k]? = some v) : w.cell? ⟨b, k, none⟩ = some v := by
  rw [cell_of_row w b k _ T (0, 0) (Holds.clf_block h i hi)]
  simpa using hk
theorem Holds.rdf (h : Holds w l) (i : Nat) {b : Nat} {T : TypeId} {cs : List Value} (hi : l[i]? = some (clf b T cs)) : Rd b cs w := fun _ _ hk => Holds.clf_cell h i hi hk
theorem Holds.setCellf (h : Holds w l) (i : Nat) {b : Nat} {T : TypeId} {cs : List Value} (hi : l[i]? = some (clf b T cs)) (k : Nat) (v : Value) : Holds (w.setCell ⟨b, k, none⟩ v) (l.set i (clf b T (cs.set k v))) := by
  have e := Holds.clf_block h i hi
  have hw : hp (w.setCell ⟨b, k, none⟩ v) = upb (hp w) b (.cells (cs.set k v).toArray T (0, 0)) := by
    refine hp_setBlock _ _ _ _ ?_ (fun c hc => heap_setCell_other _ _ _ _ hc)
    simp only [World.setCell, Array.getElem?_modify, if_true, e, Option.map_some]
    simp
  unfold Holds
  rw [hw]
  exact Sat.upb_at i hi h (fun h e' => ⟨_, e'⟩) fun h e' => by unfold clf; simp [upb]
theorem T_store1f {t b bb T : Nat} {z : Option Value} {x y : Operand} {off : Nat} {v : Value} {cs : List Value} (hx : ev n e x = .pointer (some ⟨b, off, none⟩)) (hy : ev n e y = v) (hz : tin P t = some (1, bb, z))
    (hv : v.oneCell' = true) (h : Holds w l) (i : Nat) (hi : l[i]? = some (clf b T cs)) (hk : off < cs.length) (k : ∀ w', Same w w' → Holds w' (l.set i (clf b T (cs.set off v))) → K undef w') :
    Stp P n e ⟨d, .store t x y, ty, pos, af, g⟩ w K := by
  refine .inr (.inl ⟨w.setCell ⟨b, off, none⟩ v, ?_, k _ (Same.setCell w _ v) (Holds.setCellf h i hi off v)⟩)
  simp only [execOp]
  rw [hx, hy]
  have hf : w.frozen? ⟨b, off, none⟩ = false := by simp [World.frozen?, Holds.clf_block h i hi]
  simp only [Sem.run_bind, run_storeAt1 (s := 1) hz hv (Holds.clf_cell h i hi (List.getElem?_eq_getElem hk)) hf, Result.andThen_ok, Sem.run_pure]
theorem Holds.allocf (h : Holds w l) (cs : Array Value) (T : TypeId) : Holds (w.alloc (.cells cs T)) (clf w.heap.size T cs.toList :: l) := by
  have hw : hp (w.alloc (.cells cs T)) = upb (hp w) w.heap.size (.cells cs T) :=
    hp_setBlock _ _ _ _ (heap_alloc_new w _) (fun c hc => by
      rcases Nat.lt_or_ge c w.heap.size with x | x
      · exact heap_alloc_old w _ x
      · have h1 : (w.alloc (.cells cs T)).heap.size ≤ c := by simp; omega
        rw [Array.getElem?_eq_none h1, Array.getElem?_eq_none x])
  unfold Holds
  rw [hw]
  exact Sat.upb_new h (by simp [hp]) (by simp [clf])
theorem T_boxf {t : Nat} {x : Operand} {v : Value} (hx : ev n e x = v) (h : Holds w l) (k : ∀ b w', Same w w' → Holds w' (clf b t v.cells.toList :: l) → K (.pointer (some ⟨b, 0, none⟩)) w') :
    Stp P n e ⟨d, .box t x, ty, pos, af, g⟩ w K := by
  refine T_new (obj := .cells v.cells t) (f := fun b => .pointer (some ⟨b, 0, none⟩)) ?_ (fun l h => Holds.allocf h _ _) h k
  simp only [execOp]; rw [hx]; rfl
def Blk (w : World) (b : Nat) : Prop := ∃ cs T, w.heap[b]? = some (.cells cs T (0, 0))
theorem Holds.blk (h : Holds w l) (i : Nat) {b : Nat} {T : TypeId} {cs : List Value} (hi : l[i]? = some (clf b T cs)) : Blk w b := ⟨_, _, Holds.clf_block h i hi⟩
theorem run_eqPN {t te : TypeId} {a b : Nat} {s bb : Nat} {z : Option Value} (hu : P.underlying t = some (.pointer te)) (hz : tin P te = some (s, bb, z)) (hs : s ≠ 0) (ha : Blk w a) (hb : Blk w b) :
    (Op.equal t (.pointer (some ⟨a, 0, none⟩)) (.pointer (some ⟨b, 0, none⟩))).run P w = .ok (decide (a = b)) w := by
  unfold tin at hz
  cases hi : P.info? te with
  | none => rw [hi] at hz; cases hz
  | some j =>
    rw [hi] at hz
    simp only [Option.map_some, Option.some.injEq, Prod.mk.injEq] at hz
    obtain ⟨ca, ta, ea⟩ := ha
    obtain ⟨cb, tb, eb⟩ := hb
    have key : ∀ dd : Nat, (Op.equalIn (dd + 1) t (.pointer (some ⟨a, 0, none⟩)) (.pointer (some ⟨b, 0, none⟩))).run P w = .ok (decide (a = b)) w := by
     intro dd
     by_cases hab : a = b
     · subst hab
       simp [Op.equalIn, run_underlying hu, sizeOf, typeInfo, hi, run_sameAddr_same]
     · have hne : (⟨a, 0, none⟩ : Addr) ≠ ⟨b, 0, none⟩ := by intro h; injection h with h; exact hab h
       have hj : j.size ≠ 0 := by omega
       simp [Op.equalIn, run_underlying hu, sizeOf, typeInfo, hi, hj, run_sameAddr_other w hne ea eb, hab]
    exact key 9999
theorem x_eqPN {t u te : TypeId} {x y : Operand} {a b s bb : Nat} {z : Option Value} (hx : ev n e x = .pointer (some ⟨a, 0, none⟩)) (hy : ev n e y = .pointer (some ⟨b, 0, none⟩)) (hu : P.underlying t = some (.pointer te)) (hz : tin P te = some (s, bb, z)) (hs : s ≠ 0) (ha : Blk w a) (hb : Blk w b) :
    (execOp (ev n e) ⟨d, .binOp .eql t x y u, ty, pos, af, g⟩).run P w = .ok (.value (.bool (decide (a = b)))) w := by
  simp only [execOp]
  rw [hx, hy]
  refine run_v _ ?_
  have h1 : (eqGuard .eql t x y (.pointer (some ⟨a, 0, none⟩)) (.pointer (some ⟨b, 0, none⟩))).run P w = .ok () w := by simp [eqGuard]
  simp only [Sem.run_bind, h1, Result.andThen_ok, binOp]
  simp [run_eqPN hu hz hs ha hb]
theorem x_nePN {t u te : TypeId} {x y : Operand} {a b s bb : Nat} {z : Option Value} (hx : ev n e x = .pointer (some ⟨a, 0, none⟩)) (hy : ev n e y = .pointer (some ⟨b, 0, none⟩)) (hu : P.underlying t = some (.pointer te)) (hz : tin P te = some (s, bb, z)) (hs : s ≠ 0) (ha : Blk w a) (hb : Blk w b) :
    (execOp (ev n e) ⟨d, .binOp .neq t x y u, ty, pos, af, g⟩).run P w = .ok (.value (.bool (decide (a ≠ b)))) w := by
  simp only [execOp]
  rw [hx, hy]
  refine run_v _ ?_
  have h1 : (eqGuard .neq t x y (.pointer (some ⟨a, 0, none⟩)) (.pointer (some ⟨b, 0, none⟩))).run P w = .ok () w := by simp [eqGuard]
  simp only [Sem.run_bind, h1, Result.andThen_ok, binOp]
  simp [run_eqPN hu hz hs ha hb]
end

end Go.Proofs.Ytlnihndjepjagaa
set_option linter.unusedVariables false
set_option linter.unusedSimpArgs false
namespace Go.Proofs.Ytlnihndjepjagaa
open Go Go.RowKit Gw
open Go.Value renaming int → vI, bool → vB, slice → vS, pointer → vP, agg → vA, tuple → vT

/-! ### Things that are compared -/
def Cmps (R : HP) (v w : Value) (c : Int) : Prop := ∃ (t : TypeId) (x : Value) (f : FuncId), v = .iface t x ∧ (∀ W, (method (Try.prog.types.size + Made.depth) t x "Compare").run Try.prog W = .ok (f, x) W) ∧ callable Try.prog f = true ∧ (Tri Try.prog f #[x, w] R [] fun r post => r = .int .i64 c ∧ post = []) ∧ ∀ W, (nilAhead (Try.prog.types.size + Made.depth) t x "Compare").run Try.prog W = .ok (some false) W
structure KO (K : Type) where
  cm : K → K → Int
  Val : HP → Value → K → Prop
  mono : ∀ {R R' : HP} {v : Value} {k : K}, Sub R R' → Val R v k → Val R' v k
  one : ∀ {R : HP} {v : Value} {k : K}, Val R v k → v.oneCell' = true
  cmp : ∀ {R : HP} {v w : Value} {a b : K}, Val R v a → Val R w b → Cmps R v w (cm a b)
  refl : ∀ a, cm a a = 0
  anti : ∀ {a b}, cm a b = 0 → a = b
  flip : ∀ {a b}, cm a b < 0 ↔ 0 < cm b a
  trans : ∀ {a b c}, cm a b ≤ 0 → cm b c ≤ 0 → cm a c ≤ 0
section
variable {n : Nat} {e : Env} {w : World} {K : Value → World → Prop} {d : Option Nat} {ty : TypeId} {pos : String} {af : Array Edge} {g : Option (Nat × Bool)} {l : List SP}
theorem T_cmp {R : HP} {x y : Operand} {v u : Value} {c : Int} {at_ : Array TypeId} (hx : ev n e x = v) (hy : ev n e y = u) (hc : Cmps R v u c) (h : Holds w l) (i : Nat) (hi : l[i]? = some (ro R))
    (k : ∀ w', Same w w' → Holds w' l → K (.int .i64 c) w') : Stp Try.prog n e ⟨d, .call { callee := .invoke x "Compare", args := #[y], argTypes := at_ }, ty, pos, af, g⟩ w K := by
  obtain ⟨t, xv, f, rfl, hm, hcl, ht, -⟩ := hc
  refine T_invokeWw (lo := [y]) (al := [xv, u]) hx (hm w) (by simp [hy]) hcl ?_
  have h1 : Holds w (ro R :: ([] ++ l.eraseIdx i)) := h.bring i hi
  refine (ht w _ h1).mono fun r w' ⟨v', post, er, ⟨q1, q2⟩, s, hh⟩ => ⟨v', er, ?_⟩
  subst q1; subst q2
  exact k w' s (Sat.back i hi hh)
theorem x_nilV {R : HP} {x : Operand} {v u : Value} {c : Int} (hx : ev n e x = v) (hc : Cmps R v u c) : (execOp (ev n e) ⟨d, .nilCheck x, ty, pos, af, g⟩).run Try.prog w = .ok (.value v) w := by
  obtain ⟨t, xv, f, rfl, -⟩ := hc
  simp only [execOp]
  rw [hx]
  rfl
end
/-! ### Trees of nodes -/
def pn (b : Nat) : Value := .pointer (some ⟨b, 0, none⟩)
abbrev vQ (b : Nat) : Value := .pointer (some ⟨b, 0, none⟩)
structure ND (K : Type) where
  a : Nat
  b : Value
  e : Value
  v : Value
  mx : Value
  c : Int
  kb : K
  ke : K
  km : K
def ND.cells {K : Type} (n : ND K) (l r p : Nat) : List Value := [n.b, n.e, n.v, n.mx, pn l, pn r, pn p, .int .i64 n.c]
inductive Tr (K : Type) where
  | lf
  | nd (n : ND K) (l r : Tr K)
structure Fr (K : Type) where
  d : Bool
  n : ND K
  o : Tr K
section
variable {K : Type} (sb : Nat)
def rt : Tr K → Nat | .lf => sb | .nd n _ _ => n.a
def tr : Nat → Tr K → SP
  | _, .lf => pu True
  | p, .nd n l r => grp [clf n.a 185 (n.cells (rt sb l) (rt sb r) p), tr n.a l, tr n.a r]
def pa : List (Fr K) → Nat | [] => sb | f :: _ => f.n.a
def Fr.cells (f : Fr K) (h q : Nat) : List Value := if f.d then f.n.cells h (rt sb f.o) q else f.n.cells (rt sb f.o) h q
def cx : Nat → List (Fr K) → SP
  | _, [] => pu True
  | h, f :: C => grp [clf f.n.a 185 (f.cells sb h (pa sb C)), tr sb f.n.a f.o, cx f.n.a C]
def top (h : Nat) : List (Fr K) → Nat | [] => h | f :: _ => f.n.a
def sg (h : Nat) : List (Fr K) → Nat → SP
  | [], _ => pu True
  | f :: S, q => grp [clf f.n.a 185 (f.cells sb (top h S) q), tr sb f.n.a f.o, sg h S f.n.a]
def Fr.fill (f : Fr K) (t : Tr K) : Tr K := if f.d then .nd f.n t f.o else .nd f.n f.o t
def plug : List (Fr K) → Tr K → Tr K | [], t => t | f :: C, t => plug C (f.fill t)
variable {sb}
variable {w : World} {l : List SP}
theorem Holds.tr_nd {p : Nat} {n : ND K} {a b : Tr K} (h : Holds w (tr sb p (.nd n a b) :: l)) : Holds w (clf n.a 185 (n.cells (rt sb a) (rt sb b) p) :: tr sb n.a a :: tr sb n.a b :: l) := Holds.ungrp h
theorem Holds.nd_tr {p : Nat} {n : ND K} {a b : Tr K} (h : Holds w (clf n.a 185 (n.cells (rt sb a) (rt sb b) p) :: tr sb n.a a :: tr sb n.a b :: l)) : Holds w (tr sb p (.nd n a b) :: l) := Holds.grp (l := [_, _, _]) h
theorem Holds.lf_tr {p : Nat} (h : Holds w l) : Holds w (tr sb p (.lf : Tr K) :: l) := Sat.add_free (fun _ => trivial) h
theorem Holds.cx_nil {x : Nat} (h : Holds w l) : Holds w (cx sb x ([] : List (Fr K)) :: l) := Sat.add_free (fun _ => trivial) h
theorem Holds.sg_nil {x q : Nat} (h : Holds w l) : Holds w (sg sb x ([] : List (Fr K)) q :: l) := Sat.add_free (fun _ => trivial) h
theorem Holds.cx_cons {x : Nat} {f : Fr K} {C : List (Fr K)} (h : Holds w (cx sb x (f :: C) :: l)) : Holds w (clf f.n.a 185 (f.cells sb x (pa sb C)) :: tr sb f.n.a f.o :: cx sb f.n.a C :: l) := Holds.ungrp h
theorem Holds.cons_cx {x : Nat} {f : Fr K} {C : List (Fr K)} (h : Holds w (clf f.n.a 185 (f.cells sb x (pa sb C)) :: tr sb f.n.a f.o :: cx sb f.n.a C :: l)) : Holds w (cx sb x (f :: C) :: l) := Holds.grp (l := [_, _, _]) h
theorem Holds.sg_cons {x q : Nat} {f : Fr K} {S : List (Fr K)} (h : Holds w (sg sb x (f :: S) q :: l)) : Holds w (clf f.n.a 185 (f.cells sb (top x S) q) :: tr sb f.n.a f.o :: sg sb x S f.n.a :: l) := Holds.ungrp h
theorem Holds.cons_sg {x q : Nat} {f : Fr K} {S : List (Fr K)} (h : Holds w (clf f.n.a 185 (f.cells sb (top x S) q) :: tr sb f.n.a f.o :: sg sb x S f.n.a :: l)) : Holds w (sg sb x (f :: S) q :: l) := Holds.grp (l := [_, _, _]) h
theorem Holds.sg_cx {x : Nat} : ∀ {S C : List (Fr K)}, Holds w (sg sb x S (pa sb C) :: cx sb (top x S) C :: l) → Holds w (cx sb x (S.reverse ++ C) :: l)
  | [], C, h => by simpa [top] using h.tail
  | f :: S, C, h => by
    have h1 := Holds.sg_cons h
    have h2 : Holds w (clf f.n.a 185 (f.cells sb (top x S) (pa sb C)) :: tr sb f.n.a f.o :: cx sb f.n.a C :: sg sb x S f.n.a :: l) := Sat.cons_map (fun g' h' => Sat.cons_map (fun g'' h'' => Sat.swap h'') h') h1
    have h3 : Holds w (cx sb (top x S) (f :: C) :: sg sb x S f.n.a :: l) := Holds.cons_cx h2
    have h4 := Holds.sg_cx (S := S) (C := f :: C) (Sat.swap h3)
    simpa using h4
theorem Holds.plug_in : ∀ {C : List (Fr K)} {t : Tr K}, Holds w (tr sb (pa sb C) t :: cx sb (rt sb t) C :: l) → Holds w (tr sb sb (plug C t) :: l)
  | [], t, h => by
    have h1 : Holds w (cx sb (rt sb t) ([] : List (Fr K)) :: tr sb (pa sb []) t :: l) := Sat.swap h
    exact h1.tail
  | f :: C, t, h => by
    have h1 : Holds w (clf f.n.a 185 (f.cells sb (rt sb t) (pa sb C)) :: tr sb f.n.a f.o :: cx sb f.n.a C :: tr sb f.n.a t :: l) := Holds.cx_cons (Sat.swap h)
    refine Holds.plug_in (C := C) (t := f.fill t) ?_
    obtain ⟨d, n, o⟩ := f
    cases d
    · have h2 : Holds w (clf n.a 185 (n.cells (rt sb o) (rt sb t) (pa sb C)) :: tr sb n.a o :: tr sb n.a t :: cx sb n.a C :: l) := Sat.cons_map (fun _ h => Sat.cons_map (fun _ h => Sat.swap h) h) h1
      exact Holds.nd_tr h2
    · have h2 : Holds w (clf n.a 185 (n.cells (rt sb t) (rt sb o) (pa sb C)) :: tr sb n.a t :: tr sb n.a o :: cx sb n.a C :: l) := Sat.cons_map (fun _ h => Sat.swap (Sat.cons_map (fun _ h => Sat.swap h) h)) h1
      exact Holds.nd_tr h2
end

end Go.Proofs.Ytlnihndjepjagaa
set_option linter.unusedVariables false
set_option linter.unusedSimpArgs false
namespace Go.Proofs.Ytlnihndjepjagaa
open Go Go.RowKit Gw Try
open Go.Value renaming int → vI, bool → vB, slice → vS, pointer → vP, agg → vA, tuple → vT

/-! ### What stands at the root of a piece -/
section
variable {K : Type} {sb : Nat} {w : World} {l : List SP}
def rmx : Tr K → Option (Value × K) | .lf => none | .nd n _ _ => some (n.mx, n.km)
structure RtRd (w : World) (a : Nat) (m : Option (Value × K)) : Prop where
  blk : Blk w a
  rd : ∀ x, m = some x → w.cell? ⟨a, 3, none⟩ = some x.1
theorem clf_off {l : List SP} {g : HP} {a b : Nat} {T U : TypeId} {xs ys : List Value} {i j : Nat} (h : Sat l g) (hi : l[i]? = some (clf a T xs)) (hj : l[j]? = some (clf b U ys)) (hij : i ≠ j) : a ≠ b := by
  obtain ⟨h1, k, s, t, dd, e1, r⟩ := Sat.bring i hi h
  have hj' : ∃ q : Nat, (l.eraseIdx i)[q]? = some (clf b U ys) := by
    by_cases hlt : j < i
    · exact ⟨j, by rw [List.getElem?_eraseIdx_of_lt hlt]; exact hj⟩
    · exact ⟨j - 1, by rw [List.getElem?_eraseIdx_of_ge (by omega)]; rw [show j - 1 + 1 = j by omega]; exact hj⟩
  obtain ⟨q, hq⟩ := hj'
  obtain ⟨h2, s2, e2⟩ := Sat.at q hq r
  rintro rfl
  have e1' : h1 a = _ := e1
  have e2' : h2 a = _ := e2
  rcases dd a with x | x
  · rw [x] at e1'; cases e1'
  · rw [s2 _ _ e2'] at x; cases x
theorem Holds.ne_f (h : Holds w l) {a b : Nat} {T U : TypeId} {xs ys : List Value} (i : Nat) (hi : l[i]? = some (clf a T xs)) (j : Nat) (hj : l[j]? = some (clf b U ys)) (hij : i ≠ j) : a ≠ b := clf_off h hi hj hij
theorem Holds.nd_at {p : Nat} {n : ND K} {a b : Tr K} (h : Holds w l) (i : Nat) (hi : l[i]? = some (tr sb p (.nd n a b))) : Holds w (clf n.a 185 (n.cells (rt sb a) (rt sb b) p) :: l.eraseIdx i) := by
  have h1 : Holds w (tr sb p (.nd n a b) :: l.eraseIdx i) := h.bring i hi
  exact Sat.cons_map (fun _ h => (Sat.tail (Sat.tail h))) (Holds.tr_nd h1)
theorem erase_at {l : List SP} {i j : Nat} {A : SP} (hj : l[j]? = some A) (hij : i ≠ j) : ∃ q : Nat, (l.eraseIdx i)[q]? = some A := by
  by_cases hlt : j < i
  · exact ⟨j, by rw [List.getElem?_eraseIdx_of_lt hlt]; exact hj⟩
  · exact ⟨j - 1, by rw [List.getElem?_eraseIdx_of_ge (by omega)]; rw [show j - 1 + 1 = j by omega]; exact hj⟩
theorem Holds.ne_tr {p a : Nat} {t : Tr K} {T : TypeId} {xs : List Value} (h : Holds w l) (i : Nat) (hi : l[i]? = some (clf a T xs)) (j : Nat) (hj : l[j]? = some (tr sb p t)) (hij : j ≠ i) (hs : a ≠ sb) : a ≠ rt sb t := by
  cases t with
  | lf => exact hs
  | nd n u v =>
    have h1 := Holds.nd_at h j hj
    obtain ⟨q, hq⟩ := erase_at hi hij
    have := clf_off h1 (i := q + 1) (j := 0) (by simpa using hq) rfl (by omega)
    exact this
theorem Holds.tr_rd {p : Nat} {t : Tr K} {T : TypeId} {xs : List Value} (h : Holds w l) (i : Nat) (hi : l[i]? = some (tr sb p t)) (k : Nat) (hk : l[k]? = some (clf sb T xs)) : RtRd w (rt sb t) (rmx t) := by
  cases t with
  | lf => exact ⟨Holds.blk h k hk, fun x hx => by cases hx⟩
  | nd n u v =>
    have h1 := Holds.nd_at h i hi
    exact ⟨Holds.blk h1 0 rfl, fun x hx => by cases hx; exact Holds.clf_cell h1 0 rfl rfl⟩
theorem Holds.tr_iff {p : Nat} {t : Tr K} {T : TypeId} {xs : List Value} (h : Holds w l) (i : Nat) (hi : l[i]? = some (tr sb p t)) (k : Nat) (hk : l[k]? = some (clf sb T xs)) (hik : i ≠ k) : rt sb t = sb ↔ (rmx t).isNone = true := by
  cases t with
  | lf => exact ⟨fun _ => rfl, fun _ => rfl⟩
  | nd n u v =>
    have h1 := Holds.nd_at h i hi
    obtain ⟨q, hq⟩ := erase_at hk hik
    have := clf_off h1 (i := q + 1) (j := 0) (by simpa using hq) rfl (by omega)
    exact ⟨fun e => absurd e.symm this, fun e => by cases e⟩
def ha (sb : Nat) : Option (ND K × Nat × Nat × Nat) → Nat | none => sb | some x => x.1.a
def hol : Option (ND K × Nat × Nat × Nat) → SP | none => pu True | some x => clf x.1.a 185 (x.1.cells x.2.1 x.2.2.1 x.2.2.2)
def hmx : Option (ND K × Nat × Nat × Nat) → List (Fr K) → Option (Value × K) | H, [] => H.map fun x => (x.1.mx, x.1.km) | _, f :: _ => some (f.n.mx, f.n.km)
theorem Holds.ho_rd {H : Option (ND K × Nat × Nat × Nat)} {S : List (Fr K)} {q : Nat} {T : TypeId} {xs : List Value} (h : Holds w l) (i : Nat) (hi : l[i]? = some (hol H)) (j : Nat) (hj : l[j]? = some (sg sb (ha sb H) S q)) (k : Nat) (hk : l[k]? = some (clf sb T xs)) :
    RtRd w (top (ha sb H) S) (hmx H S) := by
  cases S with
  | nil =>
    cases H with
    | none => exact ⟨Holds.blk h k hk, fun x hx => by cases hx⟩
    | some x => exact ⟨Holds.blk (b := x.1.a) h i hi, fun y hy => by cases hy; exact Holds.clf_cell (b := x.1.a) h i hi rfl⟩
  | cons f S =>
    have h1 : Holds w (clf f.n.a 185 (f.cells sb (top (ha sb H) S) q) :: tr sb f.n.a f.o :: sg sb (ha sb H) S f.n.a :: l.eraseIdx j) := Holds.sg_cons (h.bring j hj)
    exact ⟨Holds.blk h1 0 rfl, fun y hy => by cases hy; exact Holds.clf_cell h1 0 rfl (by unfold Fr.cells; split <;> rfl)⟩
theorem Holds.ho_iff {H : Option (ND K × Nat × Nat × Nat)} {S : List (Fr K)} {q : Nat} {T : TypeId} {xs : List Value} (h : Holds w l) (i : Nat) (hi : l[i]? = some (hol H)) (j : Nat) (hj : l[j]? = some (sg sb (ha sb H) S q)) (k : Nat) (hk : l[k]? = some (clf sb T xs))
    (hik : i ≠ k) (hjk : j ≠ k) : top (ha sb H) S = sb ↔ (hmx H S).isNone = true := by
  cases S with
  | nil =>
    cases H with
    | none => exact ⟨fun _ => rfl, fun _ => rfl⟩
    | some x => exact ⟨fun e => absurd e (clf_off (a := x.1.a) h hi hk hik), fun e => by cases e⟩
  | cons f S =>
    have h1 : Holds w (clf f.n.a 185 (f.cells sb (top (ha sb H) S) q) :: tr sb f.n.a f.o :: sg sb (ha sb H) S f.n.a :: l.eraseIdx j) := Holds.sg_cons (h.bring j hj)
    obtain ⟨r, hr⟩ := erase_at hk hjk
    have := clf_off h1 (i := 0) (j := r + 3) rfl (by simpa using hr) (by omega)
    exact ⟨fun e => absurd e this, fun e => by cases e⟩
theorem dec_nbool {a c : Nat} {b : Bool} (h : a = c ↔ b = true) : decide (a ≠ c) = !b := by cases b <;> simp_all
end
/-! ### The greatest end -/
section
variable {K : Type} (O : KO K)
def pick (a : Value × K) : Option (Value × K) → Value × K | none => a | some b => if 0 < O.cm b.2 a.2 then b else a
def fmx (h : Option (Value × K)) (f : Fr K) : Value × K := if f.d then pick O (pick O (f.n.e, f.n.ke) h) (rmx f.o) else pick O (pick O (f.n.e, f.n.ke) (rmx f.o)) h
def ND.setmx (n : ND K) (m : Value × K) : ND K := { n with mx := m.1, km := m.2 }
def Fr.setmx (f : Fr K) (m : Value × K) : Fr K := { f with n := f.n.setmx m }
def upC : Option (Value × K) → List (Fr K) → List (Fr K)
  | _, [] => []
  | h, f :: C => if O.cm f.n.km (fmx O h f).2 = 0 then f :: C else f.setmx (fmx O h f) :: upC (some (fmx O h f)) C
def VOk (R : HP) (m : Option (Value × K)) : Prop := ∀ x, m = some x → O.Val R x.1 x.2
structure NOk (R : HP) (n : ND K) : Prop where
  b : O.Val R n.b n.kb
  e : O.Val R n.e n.ke
  m : O.Val R n.mx n.km
  v : n.v.oneCell' = true
def TOk (R : HP) : Tr K → Prop | .lf => True | .nd n a b => NOk O R n ∧ TOk R a ∧ TOk R b
def COk (R : HP) (C : List (Fr K)) : Prop := ∀ f ∈ C, NOk O R f.n ∧ TOk O R f.o
variable {O}
theorem TOk.mx {R : HP} {t : Tr K} (h : TOk O R t) : VOk O R (rmx t) := by
  cases t with
  | lf => intro x hx; cases hx
  | nd n a b => intro x hx; cases hx; exact h.1.m
theorem VOk.so_ {R : HP} {m : Value × K} (h : O.Val R m.1 m.2) : VOk O R (some m) := fun x hx => by cases hx; exact h
theorem VOk.pk_ {R : HP} {a : Value × K} {b : Option (Value × K)} (h : O.Val R a.1 a.2) (hb : VOk O R b) : O.Val R (pick O a b).1 (pick O a b).2 := by
  cases b with
  | none => exact h
  | some b =>
    by_cases hc : 0 < O.cm b.2 a.2
    · rw [show pick O a (some b) = b from if_pos hc]; exact hb b rfl
    · rw [show pick O a (some b) = a from if_neg hc]; exact h
theorem VOk.mono {R R' : HP} (s : Gw.Sub R R') {m : Option (Value × K)} (h : VOk O R m) : VOk O R' m := fun x hx => O.mono s (h x hx)
theorem NOk.mono {R R' : HP} (s : Gw.Sub R R') {n : ND K} (h : NOk O R n) : NOk O R' n := ⟨O.mono s h.b, O.mono s h.e, O.mono s h.m, h.v⟩
theorem TOk.mono {R R' : HP} (s : Gw.Sub R R') : ∀ {t : Tr K}, TOk O R t → TOk O R' t
  | .lf, _ => trivial
  | .nd n a b, h => ⟨h.1.mono s, h.2.1.mono s, h.2.2.mono s⟩
theorem COk.mono {R R' : HP} (s : Gw.Sub R R') {C : List (Fr K)} (h : COk O R C) : COk O R' C := fun f hf => ⟨(h f hf).1.mono s, (h f hf).2.mono s⟩
theorem pick_none (a : Value × K) : pick O a none = a := rfl
theorem pick_gt {a b : Value × K} (h : 0 < O.cm b.2 a.2) : pick O a (some b) = b := if_pos h
theorem pick_le {a b : Value × K} (h : ¬ 0 < O.cm b.2 a.2) : pick O a (some b) = a := if_neg h
theorem upC_stop {h : Option (Value × K)} {f : Fr K} {C : List (Fr K)} {m : Value × K} (hm : fmx O h f = m) (he : O.cm f.n.km m.2 = 0) : upC O h (f :: C) = f :: C := by subst hm; exact if_pos he
theorem upC_go {h : Option (Value × K)} {f : Fr K} {C : List (Fr K)} {m : Value × K} (hm : fmx O h f = m) (he : ¬ O.cm f.n.km m.2 = 0) : upC O h (f :: C) = f.setmx m :: upC O (some m) C := by subst hm; exact if_neg he
end

end Go.Proofs.Ytlnihndjepjagaa
set_option linter.unusedVariables false
set_option linter.unusedSimpArgs false
namespace Go.Proofs.Ytlnihndjepjagaa
open Go Go.RowKit Gw Try
open Go.Value renaming int → vI, bool → vB, slice → vS, pointer → vP, agg → vA, tuple → vT

section
variable {P : Program} {n : Nat} {e : Env} {w : World} {d : Option Nat} {ty : TypeId} {pos : String} {af : Array Edge} {g : Option (Nat × Bool)}
theorem x_eqP {t u te : TypeId} {x y : Operand} {p : Addr} {q : Nat × Nat × Option Value} (hx : ev n e x = .pointer (some p)) (hy : ev n e y = .pointer (some p)) (hu : P.underlying t = some (.pointer te)) (hz : tin P te = some q) :
    (execOp (ev n e) ⟨d, .binOp .eql t x y u, ty, pos, af, g⟩).run P w = .ok (.value (.bool true)) w := by
  simp only [execOp]
  rw [hx, hy]
  refine run_v _ ?_
  have h1 : (eqGuard .eql t x y (.pointer (some p)) (.pointer (some p))).run P w = .ok () w := by simp [eqGuard]
  obtain ⟨j, hj, -⟩ : ∃ j, P.info? te = some j ∧ True := by
    unfold tin at hz
    cases h : P.info? te with
    | none => rw [h] at hz; cases hz
    | some j => exact ⟨j, rfl, trivial⟩
  simp only [Sem.run_bind, h1, Result.andThen_ok]
  rw [run_eql_ptr_same w p hu hj]
theorem x_neP {t u te : TypeId} {x y : Operand} {p : Addr} {q : Nat × Nat × Option Value} (hx : ev n e x = .pointer (some p)) (hy : ev n e y = .pointer (some p)) (hu : P.underlying t = some (.pointer te)) (hz : tin P te = some q) :
    (execOp (ev n e) ⟨d, .binOp .neq t x y u, ty, pos, af, g⟩).run P w = .ok (.value (.bool false)) w := by
  simp only [execOp]
  rw [hx, hy]
  refine run_v _ ?_
  have h1 : (eqGuard .neq t x y (.pointer (some p)) (.pointer (some p))).run P w = .ok () w := by simp [eqGuard]
  obtain ⟨j, hj, -⟩ : ∃ j, P.info? te = some j ∧ True := by
    unfold tin at hz
    cases h : P.info? te with
    | none => rw [h] at hz; cases hz
    | some j => exact ⟨j, rfl, trivial⟩
  have key : ∀ dd : Nat, (Op.equalIn (dd + 1) t (.pointer (some p)) (.pointer (some p))).run P w = .ok true w := fun dd => by
    simp [Op.equalIn, run_underlying hu, sizeOf, typeInfo, hj, run_sameAddr_same]
  have h2 : (Op.equal t (.pointer (some p)) (.pointer (some p))).run P w = .ok true w := key 9999
  simp only [Sem.run_bind, h1, Result.andThen_ok, binOp]
  simp [h2]
end
theorem isNone_some {α : Type} {o : Option α} (h : o.isNone = false) : ∃ x, o = some x := by cases o with | none => cases h | some x => exact ⟨x, rfl⟩
theorem isNone_none {α : Type} {o : Option α} (h : o.isNone = true) : o = none := by cases o with | none => rfl | some x => cases h


set_option maxHeartbeats 8000000 in
theorem itUpMax (R : HP) (K : Type) (O : KO K) (sb : Nat) (sc : List Value) (U0 : Option (ND K × Nat × Nat × Nat)) (C : List (Fr K)) (hC : COk O R C) (hV0 : VOk O R (hmx U0 ([] : List (Fr K)))) :
    Tri Try.prog 142 #[(vQ (pa sb C)), (vQ sb)] R [hol U0, cx sb (ha sb U0) C, clf sb 185 sc] (fun v__ post__ => v__ = (vT #[]) ∧ post__ = [hol U0, cx sb (ha sb U0) (upC O (hmx U0 []) C), clf sb 185 sc]) := by
 refine Tri.into (n := 81) (al := [(vQ (pa sb C)), (vQ sb)]) func142 rfl ntmps142 rfl rfl fun w F H => ?_
 refine C_block ?_
 have H1_ : Holds w (sg sb (ha sb U0) ([] : List (Fr K)) (pa sb C) :: ro R :: hol U0 :: cx sb (ha sb U0) C :: clf sb 185 sc :: F) := Holds.sg_nil H
 have eH2_ : cx sb (ha sb U0) C = cx sb (top (ha sb U0) ([] : List (Fr K))) C := by first | rfl | (congr 1 <;> first | rfl | omega | (simp; done) | (simp; omega))
 have H2_ : Holds w (sg sb (ha sb U0) ([] : List (Fr K)) (pa sb C) :: ro R :: hol U0 :: cx sb (top (ha sb U0) ([] : List (Fr K))) C :: clf sb 185 sc :: F) := cast1 (P := fun c__ => Holds w (sg sb (ha sb U0) ([] : List (Fr K)) (pa sb C) :: ro R :: hol U0 :: c__ :: clf sb 185 sc :: F)) eH2_ H1_
 refine C_loop (γ := (List (Fr K)) × (List (Fr K))) (fun x__ a__ w1__ => match x__ with | ⟨S, C1⟩ => ∃ h : Env, a__ = mkA 81 (upd (upd h 0 (vQ (pa sb C1))) 1 (vQ sb)) [] ∧ Holds w1__ (sg sb (ha sb U0) S (pa sb C1) :: ro R :: hol U0 :: cx sb (top (ha sb U0) S) C1 :: clf sb 185 sc :: F) ∧ Same w w1__ ∧ (COk O R C1) ∧ (VOk O R (hmx U0 S)) ∧ (upC O (hmx U0 []) C = S.reverse ++ upC O (hmx U0 S) C1)) (fun x__ => match x__ with | ⟨S, C1⟩ => C1.length) (⟨([] : List (Fr K)), C⟩) ⟨_, congrArg (fun e => mkA 81 e []) (ch (ch rfl rfl) rfl), H2_, (Same.refl w), (hC), (hV0), (rfl)⟩ ?_
 rintro ⟨S, C1⟩ _ w3_ ⟨h, rfl, H4_, S5_, hC1, hV, heq⟩
 refine C_seq (fun _ hK6_ => ?_)
 refine cr fun _ hK7_ => ?_
 rcases C1 with _ | ⟨⟨_ | _, f8_n, f8_o⟩, f8_C⟩
 ·skip
  refine sm (vQ sb) ?_
  refine sm (vQ sb) ?_
  refine sv (v := (vB false)) (x_neP rfl rfl underlying182 z185) ?_
  refine wn (hK7_ _ _ ?_)
  refine C_condF rfl ?_
  refine C_exit (X_thenX (X_thenX (X_blkHit ?_)))
  refine R_0 rfl ?_
  have hfin_ : S.reverse ++ ([] : List (Fr K)) = upC O (hmx U0 []) C := heq.symm
  have H9_ := ((Holds.bring (Holds.bring H4_ 3 rfl) 1 rfl) :)
  have H10_ := Holds.sg_cx (S := S) (C := ([] : List (Fr K))) H9_
  have H11_ := H10_; rw [hfin_] at H11_
  have H12_ := Holds.pkF H11_ [1, 1, 0, 0] 0
  exact ⟨_, _, rfl, ⟨rfl, rfl⟩, S5_, H12_⟩
 ·skip
  have H13_ := ((Holds.bring H4_ 3 rfl) :)
  have H14_ := Holds.cx_cons H13_
  have f8_k := hC1 (⟨false, f8_n, f8_o⟩ : Fr K) (List.mem_cons_self ..)
  have f8_r : COk O R f8_C := fun f hf => hC1 f (List.mem_cons_of_mem _ hf)
  refine sm (vQ f8_n.a) ?_
  refine sm (vQ sb) ?_
  have hpc15_ : f8_n.a ≠ sb := Holds.ne_f H14_ 0 rfl 6 rfl (by decide)
  refine sv (v := (vB true)) (x_cast (x_nePN rfl rfl underlying182 z185 (by decide) (Holds.blk H14_ 0 rfl) (Holds.blk H14_ 6 rfl)) (congrArg vB (decide_eq_true hpc15_))) ?_
  refine wn (hK7_ _ _ ?_)
  refine C_condT rfl ?_
  refine C_skip (X_then (hK6_ _ _ ?_))
  refine C_block ?_
  refine cr fun _ hK16_ => ?_
  refine sm (vQ f8_n.a) ?_
  refine sv (v := (vQ f8_n.a)) (by kernel_rfl) ?_
  refine sv (v := (vP (some ⟨f8_n.a, 3, none⟩))) (by kernel_rfl) ?_
  refine sv (v := f8_n.mx) (x_load1 rfl underlying109 rfl ((Holds.rdf H14_ 0 rfl) 3 f8_n.mx rfl)) ?_
  refine sv (v := f8_n.mx) (x_assign rfl) ?_
  refine wn (hK16_ _ _ ?_)
  refine cr fun _ hK17_ => ?_
  refine sm (vQ f8_n.a) ?_
  refine sv (v := (vQ f8_n.a)) (by kernel_rfl) ?_
  refine sv (v := (vQ f8_n.a)) (by kernel_rfl) ?_
  refine sv (v := (vQ f8_n.a)) (by kernel_rfl) ?_
  refine sv (v := (vP (some ⟨f8_n.a, 1, none⟩))) (by kernel_rfl) ?_
  refine sv (v := f8_n.e) (x_load1 rfl underlying109 rfl ((Holds.rdf H14_ 0 rfl) 1 f8_n.e rfl)) ?_
  refine sv (v := f8_n.e) (x_assign rfl) ?_
  refine wn (hK17_ _ _ ?_)
  refine C_cut (fun a__ w1__ => ∃ m1 : Value × K, ∃ h : Env, a__ = mkA 81 (upd (upd (upd (upd h 0 (vQ f8_n.a)) 1 (vQ sb)) 4 f8_n.mx) 5 m1.1) [] ∧ Holds w1__ (clf f8_n.a 185 [f8_n.b, f8_n.e, f8_n.v, f8_n.mx, (vQ (rt sb f8_o)), (vQ (top (ha sb U0) S)), (vQ (pa sb f8_C)), (vI .i64 f8_n.c)] :: tr sb f8_n.a f8_o :: cx sb f8_n.a f8_C :: sg sb (ha sb U0) S f8_n.a :: ro R :: hol U0 :: clf sb 185 sc :: F) ∧ Same w w1__ ∧ (pick O (f8_n.e, f8_n.ke) (rmx f8_o) = m1) ∧ (O.Val R m1.1 m1.2)) ?_ ?_
  ·refine cr fun _ hK21_ => ?_
   refine sm (vQ f8_n.a) ?_
   refine sv (v := (vQ f8_n.a)) (by kernel_rfl) ?_
   refine sv (v := (vP (some ⟨f8_n.a, 4, none⟩))) (by kernel_rfl) ?_
   refine sv (v := (vQ (rt sb f8_o))) (x_load1 rfl underlying182 rfl ((Holds.rdf H14_ 0 rfl) 4 (vQ (rt sb f8_o)) rfl)) ?_
   refine sm (vQ sb) ?_
   have hpc22_ : (rt sb f8_o) = sb ↔ (rmx f8_o).isNone = true := Holds.tr_iff H14_ 1 rfl 6 rfl (by decide)
   refine sv (v := (vB (!(rmx f8_o).isNone))) (x_cast (x_nePN rfl rfl underlying182 z185 (by decide) (Holds.tr_rd H14_ 1 rfl 6 rfl).blk (Holds.blk H14_ 6 rfl)) (congrArg vB (dec_nbool hpc22_))) ?_
   refine sm (vB (!(rmx f8_o).isNone)) ?_
   rcases Bool.eq_false_or_eq_true (!(rmx f8_o).isNone) with c23_t | c23_f
   ·skip
    obtain ⟨m24_, m24_h⟩ : ∃ x, (rmx f8_o) = some x := isNone_some (by simpa using c23_t)
    refine S_yes (j := 6) (dj := 25) (b := true) rfl rfl (congrArg vB c23_t) (T_val (v := (vQ f8_n.a)) (x_move rfl) ?_)
    refine S_yes (j := 6) (dj := 25) (b := true) rfl rfl (congrArg vB c23_t) (T_val (v := (vQ f8_n.a)) (by kernel_rfl) ?_)
    refine S_yes (j := 6) (dj := 25) (b := true) rfl rfl (congrArg vB c23_t) (T_val (v := (vP (some ⟨f8_n.a, 4, none⟩))) (by kernel_rfl) ?_)
    refine S_yes (j := 6) (dj := 25) (b := true) rfl rfl (congrArg vB c23_t) (T_val (v := (vQ (rt sb f8_o))) (x_load1 rfl underlying182 rfl ((Holds.rdf H14_ 0 rfl) 4 (vQ (rt sb f8_o)) rfl)) ?_)
    refine S_yes (j := 6) (dj := 25) (b := true) rfl rfl (congrArg vB c23_t) (T_val (v := (vQ (rt sb f8_o))) (by kernel_rfl) ?_)
    refine S_yes (j := 6) (dj := 25) (b := true) rfl rfl (congrArg vB c23_t) (T_val (v := (vP (some ⟨(rt sb f8_o), 3, none⟩))) (by kernel_rfl) ?_)
    refine S_yes (j := 6) (dj := 25) (b := true) rfl rfl (congrArg vB c23_t) (T_val (v := m24_.1) (x_load1 rfl underlying109 rfl ((Holds.tr_rd H14_ 1 rfl 6 rfl).rd m24_ m24_h)) ?_)
    refine S_yes (j := 6) (dj := 25) (b := true) rfl rfl (congrArg vB c23_t) (T_val (v := f8_n.e) (x_move rfl) ?_)
    refine S_yes (j := 6) (dj := 25) (b := true) rfl rfl (congrArg vB c23_t) (T_cmp rfl rfl (O.cmp (TOk.mx f8_k.2 m24_ m24_h) (f8_k.1.e)) H14_ 4 rfl ?_)
    intro w25_ S27_ H26_
    have S28_ := Same.trans S5_ S27_
    refine S_yes (j := 6) (dj := 25) (b := true) rfl rfl (congrArg vB c23_t) (T_val (v := (vB (decide (0 < O.cm m24_.2 f8_n.ke)))) (x_bin rfl rfl rfl) ?_)
    refine S_list (T_pickT (v := (vB (decide (0 < O.cm m24_.2 f8_n.ke)))) (congrArg vB c23_t) rfl ?_)
    refine wn (hK21_ _ _ ?_)
    refine C_cond (b := decide (0 < O.cm m24_.2 f8_n.ke)) rfl (fun c29_t => ?_) (fun c29_f => ?_)
    ·have c29_tp : 0 < O.cm m24_.2 f8_n.ke := of_decide_eq_true c29_t
     refine C_reg ?_
     refine sm (vQ f8_n.a) ?_
     refine sv (v := (vQ f8_n.a)) (by kernel_rfl) ?_
     refine sv (v := (vP (some ⟨f8_n.a, 4, none⟩))) (by kernel_rfl) ?_
     refine sv (v := (vQ (rt sb f8_o))) (x_load1 rfl underlying182 rfl ((Holds.rdf H26_ 0 rfl) 4 (vQ (rt sb f8_o)) rfl)) ?_
     refine sv (v := (vQ (rt sb f8_o))) (by kernel_rfl) ?_
     refine sv (v := (vP (some ⟨(rt sb f8_o), 3, none⟩))) (by kernel_rfl) ?_
     refine sv (v := m24_.1) (x_load1 rfl underlying109 rfl ((Holds.tr_rd H26_ 1 rfl 6 rfl).rd m24_ m24_h)) ?_
     refine sv (v := m24_.1) (x_assign rfl) ?_
     refine wpList_nil (X_then ?_)
     exact ⟨m24_, _, congrArg (fun e => mkA 81 e []) (ch (ch (ch (ch rfl rfl) rfl) rfl) rfl), H26_, S28_, (by rw [m24_h]; exact pick_gt c29_tp), ((TOk.mx f8_k.2 m24_ m24_h))⟩
    ·have c29_fp : ¬ (0 < O.cm m24_.2 f8_n.ke) := of_decide_eq_false c29_f
     refine C_skip (X_then ?_)
     exact ⟨(f8_n.e, f8_n.ke), _, congrArg (fun e => mkA 81 e []) (ch (ch (ch (ch rfl rfl) rfl) rfl) ((by first | rfl | omega | (simp; done) | (simp; omega)) : f8_n.e = ((f8_n.e, f8_n.ke).1))), H26_, S28_, (by rw [m24_h]; exact pick_le c29_fp), (f8_k.1.e)⟩
   ·skip
    have m30_ : (rmx f8_o) = none := isNone_none (by simpa using c23_f)
    refine S_no (j := 6) (dj := 25) (b := false) rfl rfl (congrArg vB c23_f) (by decide) ?_
    refine S_no (j := 6) (dj := 25) (b := false) rfl rfl (congrArg vB c23_f) (by decide) ?_
    refine S_no (j := 6) (dj := 25) (b := false) rfl rfl (congrArg vB c23_f) (by decide) ?_
    refine S_no (j := 6) (dj := 25) (b := false) rfl rfl (congrArg vB c23_f) (by decide) ?_
    refine S_no (j := 6) (dj := 25) (b := false) rfl rfl (congrArg vB c23_f) (by decide) ?_
    refine S_no (j := 6) (dj := 25) (b := false) rfl rfl (congrArg vB c23_f) (by decide) ?_
    refine S_no (j := 6) (dj := 25) (b := false) rfl rfl (congrArg vB c23_f) (by decide) ?_
    refine S_no (j := 6) (dj := 25) (b := false) rfl rfl (congrArg vB c23_f) (by decide) ?_
    refine S_no (j := 6) (dj := 25) (b := false) rfl rfl (congrArg vB c23_f) (by decide) ?_
    refine S_no (j := 6) (dj := 25) (b := false) rfl rfl (congrArg vB c23_f) (by decide) ?_
    refine S_list (T_pickF (v := (vB false)) (congrArg vB c23_f) rfl ?_)
    refine wn (hK21_ _ _ ?_)
    refine C_condF rfl ?_
    refine C_skip (X_then ?_)
    exact ⟨(f8_n.e, f8_n.ke), _, congrArg (fun e => mkA 81 e []) (ch (ch (ch (ch rfl rfl) rfl) rfl) ((by first | rfl | omega | (simp; done) | (simp; omega)) : f8_n.e = ((f8_n.e, f8_n.ke).1))), H14_, S5_, (by rw [m30_]; rfl), (f8_k.1.e)⟩
  ·rintro _ w18_ ⟨m1, h, rfl, H19_, S20_, hm1, hv1⟩
   refine C_cut (fun a__ w1__ => ∃ m2 : Value × K, ∃ h : Env, a__ = mkA 81 (upd (upd (upd (upd h 0 (vQ f8_n.a)) 1 (vQ sb)) 4 f8_n.mx) 5 m2.1) [] ∧ Holds w1__ (clf f8_n.a 185 [f8_n.b, f8_n.e, f8_n.v, f8_n.mx, (vQ (rt sb f8_o)), (vQ (top (ha sb U0) S)), (vQ (pa sb f8_C)), (vI .i64 f8_n.c)] :: tr sb f8_n.a f8_o :: cx sb f8_n.a f8_C :: sg sb (ha sb U0) S f8_n.a :: ro R :: hol U0 :: clf sb 185 sc :: F) ∧ Same w w1__ ∧ (pick O m1 (hmx U0 S) = m2) ∧ (O.Val R m2.1 m2.2)) ?_ ?_
   ·refine cr fun _ hK34_ => ?_
    refine sm (vQ f8_n.a) ?_
    refine sv (v := (vQ f8_n.a)) (by kernel_rfl) ?_
    refine sv (v := (vP (some ⟨f8_n.a, 5, none⟩))) (by kernel_rfl) ?_
    refine sv (v := (vQ (top (ha sb U0) S))) (x_load1 rfl underlying182 rfl ((Holds.rdf H19_ 0 rfl) 5 (vQ (top (ha sb U0) S)) rfl)) ?_
    refine sm (vQ sb) ?_
    have hpc35_ : (top (ha sb U0) S) = sb ↔ (hmx U0 S).isNone = true := Holds.ho_iff H19_ 5 rfl 3 rfl 6 rfl (by decide) (by decide)
    refine sv (v := (vB (!(hmx U0 S).isNone))) (x_cast (x_nePN rfl rfl underlying182 z185 (by decide) (Holds.ho_rd H19_ 5 rfl 3 rfl 6 rfl).blk (Holds.blk H19_ 6 rfl)) (congrArg vB (dec_nbool hpc35_))) ?_
    refine sm (vB (!(hmx U0 S).isNone)) ?_
    rcases Bool.eq_false_or_eq_true (!(hmx U0 S).isNone) with c36_t | c36_f
    ·skip
     obtain ⟨m37_, m37_h⟩ : ∃ x, (hmx U0 S) = some x := isNone_some (by simpa using c36_t)
     refine S_yes (j := 6) (dj := 50) (b := true) rfl rfl (congrArg vB c36_t) (T_val (v := (vQ f8_n.a)) (x_move rfl) ?_)
     refine S_yes (j := 6) (dj := 50) (b := true) rfl rfl (congrArg vB c36_t) (T_val (v := (vQ f8_n.a)) (by kernel_rfl) ?_)
     refine S_yes (j := 6) (dj := 50) (b := true) rfl rfl (congrArg vB c36_t) (T_val (v := (vP (some ⟨f8_n.a, 5, none⟩))) (by kernel_rfl) ?_)
     refine S_yes (j := 6) (dj := 50) (b := true) rfl rfl (congrArg vB c36_t) (T_val (v := (vQ (top (ha sb U0) S))) (x_load1 rfl underlying182 rfl ((Holds.rdf H19_ 0 rfl) 5 (vQ (top (ha sb U0) S)) rfl)) ?_)
     refine S_yes (j := 6) (dj := 50) (b := true) rfl rfl (congrArg vB c36_t) (T_val (v := (vQ (top (ha sb U0) S))) (by kernel_rfl) ?_)
     refine S_yes (j := 6) (dj := 50) (b := true) rfl rfl (congrArg vB c36_t) (T_val (v := (vP (some ⟨(top (ha sb U0) S), 3, none⟩))) (by kernel_rfl) ?_)
     refine S_yes (j := 6) (dj := 50) (b := true) rfl rfl (congrArg vB c36_t) (T_val (v := m37_.1) (x_load1 rfl underlying109 rfl ((Holds.ho_rd H19_ 5 rfl 3 rfl 6 rfl).rd m37_ m37_h)) ?_)
     refine S_yes (j := 6) (dj := 50) (b := true) rfl rfl (congrArg vB c36_t) (T_val (v := m1.1) (x_move rfl) ?_)
     refine S_yes (j := 6) (dj := 50) (b := true) rfl rfl (congrArg vB c36_t) (T_cmp rfl rfl (O.cmp (hV m37_ m37_h) hv1) H19_ 4 rfl ?_)
     intro w38_ S40_ H39_
     have S41_ := Same.trans S20_ S40_
     refine S_yes (j := 6) (dj := 50) (b := true) rfl rfl (congrArg vB c36_t) (T_val (v := (vB (decide (0 < O.cm m37_.2 m1.2)))) (x_bin rfl rfl rfl) ?_)
     refine S_list (T_pickT (v := (vB (decide (0 < O.cm m37_.2 m1.2)))) (congrArg vB c36_t) rfl ?_)
     refine wn (hK34_ _ _ ?_)
     refine C_cond (b := decide (0 < O.cm m37_.2 m1.2)) rfl (fun c42_t => ?_) (fun c42_f => ?_)
     ·have c42_tp : 0 < O.cm m37_.2 m1.2 := of_decide_eq_true c42_t
      refine C_reg ?_
      refine sm (vQ f8_n.a) ?_
      refine sv (v := (vQ f8_n.a)) (by kernel_rfl) ?_
      refine sv (v := (vP (some ⟨f8_n.a, 5, none⟩))) (by kernel_rfl) ?_
      refine sv (v := (vQ (top (ha sb U0) S))) (x_load1 rfl underlying182 rfl ((Holds.rdf H39_ 0 rfl) 5 (vQ (top (ha sb U0) S)) rfl)) ?_
      refine sv (v := (vQ (top (ha sb U0) S))) (by kernel_rfl) ?_
      refine sv (v := (vP (some ⟨(top (ha sb U0) S), 3, none⟩))) (by kernel_rfl) ?_
      refine sv (v := m37_.1) (x_load1 rfl underlying109 rfl ((Holds.ho_rd H39_ 5 rfl 3 rfl 6 rfl).rd m37_ m37_h)) ?_
      refine sv (v := m37_.1) (x_assign rfl) ?_
      refine wpList_nil (X_then ?_)
      exact ⟨m37_, _, congrArg (fun e => mkA 81 e []) (ch (ch (ch (ch rfl rfl) rfl) rfl) rfl), H39_, S41_, (by rw [m37_h]; exact pick_gt c42_tp), ((hV m37_ m37_h))⟩
     ·have c42_fp : ¬ (0 < O.cm m37_.2 m1.2) := of_decide_eq_false c42_f
      refine C_skip (X_then ?_)
      exact ⟨m1, _, congrArg (fun e => mkA 81 e []) (ch (ch (ch (ch rfl rfl) rfl) rfl) rfl), H39_, S41_, (by rw [m37_h]; exact pick_le c42_fp), (hv1)⟩
    ·skip
     have m43_ : (hmx U0 S) = none := isNone_none (by simpa using c36_f)
     refine S_no (j := 6) (dj := 50) (b := false) rfl rfl (congrArg vB c36_f) (by decide) ?_
     refine S_no (j := 6) (dj := 50) (b := false) rfl rfl (congrArg vB c36_f) (by decide) ?_
     refine S_no (j := 6) (dj := 50) (b := false) rfl rfl (congrArg vB c36_f) (by decide) ?_
     refine S_no (j := 6) (dj := 50) (b := false) rfl rfl (congrArg vB c36_f) (by decide) ?_
     refine S_no (j := 6) (dj := 50) (b := false) rfl rfl (congrArg vB c36_f) (by decide) ?_
     refine S_no (j := 6) (dj := 50) (b := false) rfl rfl (congrArg vB c36_f) (by decide) ?_
     refine S_no (j := 6) (dj := 50) (b := false) rfl rfl (congrArg vB c36_f) (by decide) ?_
     refine S_no (j := 6) (dj := 50) (b := false) rfl rfl (congrArg vB c36_f) (by decide) ?_
     refine S_no (j := 6) (dj := 50) (b := false) rfl rfl (congrArg vB c36_f) (by decide) ?_
     refine S_no (j := 6) (dj := 50) (b := false) rfl rfl (congrArg vB c36_f) (by decide) ?_
     refine S_list (T_pickF (v := (vB false)) (congrArg vB c36_f) rfl ?_)
     refine wn (hK34_ _ _ ?_)
     refine C_condF rfl ?_
     refine C_skip (X_then ?_)
     exact ⟨m1, _, congrArg (fun e => mkA 81 e []) (ch (ch (ch (ch rfl rfl) rfl) rfl) rfl), H19_, S20_, (by rw [m43_]; rfl), (hv1)⟩
   ·rintro _ w31_ ⟨m2, h, rfl, H32_, S33_, hm2, hv2⟩
    refine C_seq (fun _ hK44_ => ?_)
    refine cr fun _ hK45_ => ?_
    refine sv (v := f8_n.mx) (x_move rfl) ?_
    refine sv (v := m2.1) (x_move rfl) ?_
    refine S_list (T_cmp rfl rfl (O.cmp (f8_k.1.m) hv2) H32_ 4 rfl ?_)
    intro w46_ S48_ H47_
    have S49_ := Same.trans S33_ S48_
    refine sv (v := (vB (decide (O.cm f8_n.km m2.2 = 0)))) (x_bin rfl rfl rfl) ?_
    refine wn (hK45_ _ _ ?_)
    refine C_cond (b := decide (O.cm f8_n.km m2.2 = 0)) rfl (fun c50_t => ?_) (fun c50_f => ?_)
    ·have c50_tp : O.cm f8_n.km m2.2 = 0 := of_decide_eq_true c50_t
     refine C_exit (X_thenX (X_blkMiss rfl (X_thenX (X_blkHit ?_))))
     refine R_0 rfl ?_
     have H51_ := Holds.cons_cx (f := (⟨false, f8_n, f8_o⟩ : Fr K)) (x := top (ha sb U0) S) H47_
     have hfin_ : S.reverse ++ ((⟨false, f8_n, f8_o⟩ : Fr K) :: f8_C) = upC O (hmx U0 []) C := by rw [heq, upC_stop (m := m2) (by show pick O (pick O _ _) _ = m2; rw [hm1, hm2]) c50_tp]
     have H52_ := ((Holds.bring H51_ 1 rfl) :)
     have H53_ := Holds.sg_cx (S := S) (C := ((⟨false, f8_n, f8_o⟩ : Fr K) :: f8_C)) H52_
     have H54_ := H53_; rw [hfin_] at H54_
     have H55_ := Holds.pkF H54_ [1, 1, 0, 0] 0
     exact ⟨_, _, rfl, ⟨rfl, rfl⟩, S49_, H55_⟩
    ·have c50_fp : ¬ (O.cm f8_n.km m2.2 = 0) := of_decide_eq_false c50_f
     refine C_skip (X_then (hK44_ _ _ ?_))
     refine cr fun _ hK56_ => ?_
     refine sm (vQ f8_n.a) ?_
     refine sv (v := m2.1) (x_move rfl) ?_
     refine sv (v := (vQ f8_n.a)) (by kernel_rfl) ?_
     refine sv (v := (vP (some ⟨f8_n.a, 3, none⟩))) (by kernel_rfl) ?_
     refine S_list0 (T_store1f (v := m2.1) rfl rfl z109 (O.one hv2) H47_ 0 rfl (Nat.le_of_ble_eq_true (by rfl)) ?_)
     intro w57_ S59_ H58_
     have S60_ := Same.trans S49_ S59_
     refine wn (hK56_ _ _ ?_)
     refine C_reg ?_
     refine sm (vQ f8_n.a) ?_
     refine sv (v := (vQ f8_n.a)) (by kernel_rfl) ?_
     refine sv (v := (vP (some ⟨f8_n.a, 6, none⟩))) (by kernel_rfl) ?_
     refine sv (v := (vQ (pa sb f8_C))) (x_load1 rfl underlying182 rfl ((Holds.rdf H58_ 0 rfl) 6 (vQ (pa sb f8_C)) rfl)) ?_
     refine sv (v := (vQ (pa sb f8_C))) (x_assign rfl) ?_
     refine wpList_nil (X_blkN (X_then ?_))
     have H61_ := ((Holds.bring (Holds.bring (Holds.bring H58_ 3 rfl) 2 rfl) 2 rfl) :)
     have H62_ := Holds.cons_sg (f := (⟨false, f8_n, f8_o⟩ : Fr K).setmx m2) (S := S) H61_
     have eH63_ : cx sb f8_n.a f8_C = cx sb (top (ha sb U0) ((⟨false, f8_n, f8_o⟩ : Fr K).setmx m2 :: S)) f8_C := by first | rfl | (congr 1 <;> first | rfl | omega | (simp; done) | (simp; omega))
     have H63_ : Holds w57_ (sg sb (ha sb U0) ((⟨false, f8_n, f8_o⟩ : Fr K).setmx m2 :: S) (pa sb f8_C) :: cx sb (top (ha sb U0) ((⟨false, f8_n, f8_o⟩ : Fr K).setmx m2 :: S)) f8_C :: ro R :: hol U0 :: clf sb 185 sc :: F) := cast1 (P := fun c__ => Holds w57_ (sg sb (ha sb U0) ((⟨false, f8_n, f8_o⟩ : Fr K).setmx m2 :: S) (pa sb f8_C) :: c__ :: ro R :: hol U0 :: clf sb 185 sc :: F)) eH63_ H62_
     have H64_ := Holds.pkF H63_ [0, 1, 1, 0, 0] 0
     exact ⟨⟨((⟨false, f8_n, f8_o⟩ : Fr K).setmx m2 :: S), f8_C⟩, ⟨_, congrArg (fun e => mkA 81 e []) (ch (ch rfl rfl) rfl), H64_, S60_, (f8_r), (VOk.so_ hv2), (by rw [heq, upC_go (m := m2) (by show pick O (pick O _ _) _ = m2; rw [hm1, hm2]) c50_fp, List.reverse_cons, List.append_assoc]; rfl)⟩, (by simp)⟩
 ·skip
  have H65_ := ((Holds.bring H4_ 3 rfl) :)
  have H66_ := Holds.cx_cons H65_
  have f8_k := hC1 (⟨true, f8_n, f8_o⟩ : Fr K) (List.mem_cons_self ..)
  have f8_r : COk O R f8_C := fun f hf => hC1 f (List.mem_cons_of_mem _ hf)
  refine sm (vQ f8_n.a) ?_
  refine sm (vQ sb) ?_
  have hpc67_ : f8_n.a ≠ sb := Holds.ne_f H66_ 0 rfl 6 rfl (by decide)
  refine sv (v := (vB true)) (x_cast (x_nePN rfl rfl underlying182 z185 (by decide) (Holds.blk H66_ 0 rfl) (Holds.blk H66_ 6 rfl)) (congrArg vB (decide_eq_true hpc67_))) ?_
  refine wn (hK7_ _ _ ?_)
  refine C_condT rfl ?_
  refine C_skip (X_then (hK6_ _ _ ?_))
  refine C_block ?_
  refine cr fun _ hK68_ => ?_
  refine sm (vQ f8_n.a) ?_
  refine sv (v := (vQ f8_n.a)) (by kernel_rfl) ?_
  refine sv (v := (vP (some ⟨f8_n.a, 3, none⟩))) (by kernel_rfl) ?_
  refine sv (v := f8_n.mx) (x_load1 rfl underlying109 rfl ((Holds.rdf H66_ 0 rfl) 3 f8_n.mx rfl)) ?_
  refine sv (v := f8_n.mx) (x_assign rfl) ?_
  refine wn (hK68_ _ _ ?_)
  refine cr fun _ hK69_ => ?_
  refine sm (vQ f8_n.a) ?_
  refine sv (v := (vQ f8_n.a)) (by kernel_rfl) ?_
  refine sv (v := (vQ f8_n.a)) (by kernel_rfl) ?_
  refine sv (v := (vQ f8_n.a)) (by kernel_rfl) ?_
  refine sv (v := (vP (some ⟨f8_n.a, 1, none⟩))) (by kernel_rfl) ?_
  refine sv (v := f8_n.e) (x_load1 rfl underlying109 rfl ((Holds.rdf H66_ 0 rfl) 1 f8_n.e rfl)) ?_
  refine sv (v := f8_n.e) (x_assign rfl) ?_
  refine wn (hK69_ _ _ ?_)
  refine C_cut (fun a__ w1__ => ∃ m1 : Value × K, ∃ h : Env, a__ = mkA 81 (upd (upd (upd (upd h 0 (vQ f8_n.a)) 1 (vQ sb)) 4 f8_n.mx) 5 m1.1) [] ∧ Holds w1__ (clf f8_n.a 185 [f8_n.b, f8_n.e, f8_n.v, f8_n.mx, (vQ (top (ha sb U0) S)), (vQ (rt sb f8_o)), (vQ (pa sb f8_C)), (vI .i64 f8_n.c)] :: tr sb f8_n.a f8_o :: cx sb f8_n.a f8_C :: sg sb (ha sb U0) S f8_n.a :: ro R :: hol U0 :: clf sb 185 sc :: F) ∧ Same w w1__ ∧ (pick O (f8_n.e, f8_n.ke) (hmx U0 S) = m1) ∧ (O.Val R m1.1 m1.2)) ?_ ?_
  ·refine cr fun _ hK73_ => ?_
   refine sm (vQ f8_n.a) ?_
   refine sv (v := (vQ f8_n.a)) (by kernel_rfl) ?_
   refine sv (v := (vP (some ⟨f8_n.a, 4, none⟩))) (by kernel_rfl) ?_
   refine sv (v := (vQ (top (ha sb U0) S))) (x_load1 rfl underlying182 rfl ((Holds.rdf H66_ 0 rfl) 4 (vQ (top (ha sb U0) S)) rfl)) ?_
   refine sm (vQ sb) ?_
   have hpc74_ : (top (ha sb U0) S) = sb ↔ (hmx U0 S).isNone = true := Holds.ho_iff H66_ 5 rfl 3 rfl 6 rfl (by decide) (by decide)
   refine sv (v := (vB (!(hmx U0 S).isNone))) (x_cast (x_nePN rfl rfl underlying182 z185 (by decide) (Holds.ho_rd H66_ 5 rfl 3 rfl 6 rfl).blk (Holds.blk H66_ 6 rfl)) (congrArg vB (dec_nbool hpc74_))) ?_
   refine sm (vB (!(hmx U0 S).isNone)) ?_
   rcases Bool.eq_false_or_eq_true (!(hmx U0 S).isNone) with c75_t | c75_f
   ·skip
    obtain ⟨m76_, m76_h⟩ : ∃ x, (hmx U0 S) = some x := isNone_some (by simpa using c75_t)
    refine S_yes (j := 6) (dj := 25) (b := true) rfl rfl (congrArg vB c75_t) (T_val (v := (vQ f8_n.a)) (x_move rfl) ?_)
    refine S_yes (j := 6) (dj := 25) (b := true) rfl rfl (congrArg vB c75_t) (T_val (v := (vQ f8_n.a)) (by kernel_rfl) ?_)
    refine S_yes (j := 6) (dj := 25) (b := true) rfl rfl (congrArg vB c75_t) (T_val (v := (vP (some ⟨f8_n.a, 4, none⟩))) (by kernel_rfl) ?_)
    refine S_yes (j := 6) (dj := 25) (b := true) rfl rfl (congrArg vB c75_t) (T_val (v := (vQ (top (ha sb U0) S))) (x_load1 rfl underlying182 rfl ((Holds.rdf H66_ 0 rfl) 4 (vQ (top (ha sb U0) S)) rfl)) ?_)
    refine S_yes (j := 6) (dj := 25) (b := true) rfl rfl (congrArg vB c75_t) (T_val (v := (vQ (top (ha sb U0) S))) (by kernel_rfl) ?_)
    refine S_yes (j := 6) (dj := 25) (b := true) rfl rfl (congrArg vB c75_t) (T_val (v := (vP (some ⟨(top (ha sb U0) S), 3, none⟩))) (by kernel_rfl) ?_)
    refine S_yes (j := 6) (dj := 25) (b := true) rfl rfl (congrArg vB c75_t) (T_val (v := m76_.1) (x_load1 rfl underlying109 rfl ((Holds.ho_rd H66_ 5 rfl 3 rfl 6 rfl).rd m76_ m76_h)) ?_)
    refine S_yes (j := 6) (dj := 25) (b := true) rfl rfl (congrArg vB c75_t) (T_val (v := f8_n.e) (x_move rfl) ?_)
    refine S_yes (j := 6) (dj := 25) (b := true) rfl rfl (congrArg vB c75_t) (T_cmp rfl rfl (O.cmp (hV m76_ m76_h) (f8_k.1.e)) H66_ 4 rfl ?_)
    intro w77_ S79_ H78_
    have S80_ := Same.trans S5_ S79_
    refine S_yes (j := 6) (dj := 25) (b := true) rfl rfl (congrArg vB c75_t) (T_val (v := (vB (decide (0 < O.cm m76_.2 f8_n.ke)))) (x_bin rfl rfl rfl) ?_)
    refine S_list (T_pickT (v := (vB (decide (0 < O.cm m76_.2 f8_n.ke)))) (congrArg vB c75_t) rfl ?_)
    refine wn (hK73_ _ _ ?_)
    refine C_cond (b := decide (0 < O.cm m76_.2 f8_n.ke)) rfl (fun c81_t => ?_) (fun c81_f => ?_)
    ·have c81_tp : 0 < O.cm m76_.2 f8_n.ke := of_decide_eq_true c81_t
     refine C_reg ?_
     refine sm (vQ f8_n.a) ?_
     refine sv (v := (vQ f8_n.a)) (by kernel_rfl) ?_
     refine sv (v := (vP (some ⟨f8_n.a, 4, none⟩))) (by kernel_rfl) ?_
     refine sv (v := (vQ (top (ha sb U0) S))) (x_load1 rfl underlying182 rfl ((Holds.rdf H78_ 0 rfl) 4 (vQ (top (ha sb U0) S)) rfl)) ?_
     refine sv (v := (vQ (top (ha sb U0) S))) (by kernel_rfl) ?_
     refine sv (v := (vP (some ⟨(top (ha sb U0) S), 3, none⟩))) (by kernel_rfl) ?_
     refine sv (v := m76_.1) (x_load1 rfl underlying109 rfl ((Holds.ho_rd H78_ 5 rfl 3 rfl 6 rfl).rd m76_ m76_h)) ?_
     refine sv (v := m76_.1) (x_assign rfl) ?_
     refine wpList_nil (X_then ?_)
     exact ⟨m76_, _, congrArg (fun e => mkA 81 e []) (ch (ch (ch (ch rfl rfl) rfl) rfl) rfl), H78_, S80_, (by rw [m76_h]; exact pick_gt c81_tp), ((hV m76_ m76_h))⟩
    ·have c81_fp : ¬ (0 < O.cm m76_.2 f8_n.ke) := of_decide_eq_false c81_f
     refine C_skip (X_then ?_)
     exact ⟨(f8_n.e, f8_n.ke), _, congrArg (fun e => mkA 81 e []) (ch (ch (ch (ch rfl rfl) rfl) rfl) ((by first | rfl | omega | (simp; done) | (simp; omega)) : f8_n.e = ((f8_n.e, f8_n.ke).1))), H78_, S80_, (by rw [m76_h]; exact pick_le c81_fp), (f8_k.1.e)⟩
   ·skip
    have m82_ : (hmx U0 S) = none := isNone_none (by simpa using c75_f)
    refine S_no (j := 6) (dj := 25) (b := false) rfl rfl (congrArg vB c75_f) (by decide) ?_
    refine S_no (j := 6) (dj := 25) (b := false) rfl rfl (congrArg vB c75_f) (by decide) ?_
    refine S_no (j := 6) (dj := 25) (b := false) rfl rfl (congrArg vB c75_f) (by decide) ?_
    refine S_no (j := 6) (dj := 25) (b := false) rfl rfl (congrArg vB c75_f) (by decide) ?_
    refine S_no (j := 6) (dj := 25) (b := false) rfl rfl (congrArg vB c75_f) (by decide) ?_
    refine S_no (j := 6) (dj := 25) (b := false) rfl rfl (congrArg vB c75_f) (by decide) ?_
    refine S_no (j := 6) (dj := 25) (b := false) rfl rfl (congrArg vB c75_f) (by decide) ?_
    refine S_no (j := 6) (dj := 25) (b := false) rfl rfl (congrArg vB c75_f) (by decide) ?_
    refine S_no (j := 6) (dj := 25) (b := false) rfl rfl (congrArg vB c75_f) (by decide) ?_
    refine S_no (j := 6) (dj := 25) (b := false) rfl rfl (congrArg vB c75_f) (by decide) ?_
    refine S_list (T_pickF (v := (vB false)) (congrArg vB c75_f) rfl ?_)
    refine wn (hK73_ _ _ ?_)
    refine C_condF rfl ?_
    refine C_skip (X_then ?_)
    exact ⟨(f8_n.e, f8_n.ke), _, congrArg (fun e => mkA 81 e []) (ch (ch (ch (ch rfl rfl) rfl) rfl) ((by first | rfl | omega | (simp; done) | (simp; omega)) : f8_n.e = ((f8_n.e, f8_n.ke).1))), H66_, S5_, (by rw [m82_]; rfl), (f8_k.1.e)⟩
  ·rintro _ w70_ ⟨m1, h, rfl, H71_, S72_, hm1, hv1⟩
   refine C_cut (fun a__ w1__ => ∃ m2 : Value × K, ∃ h : Env, a__ = mkA 81 (upd (upd (upd (upd h 0 (vQ f8_n.a)) 1 (vQ sb)) 4 f8_n.mx) 5 m2.1) [] ∧ Holds w1__ (clf f8_n.a 185 [f8_n.b, f8_n.e, f8_n.v, f8_n.mx, (vQ (top (ha sb U0) S)), (vQ (rt sb f8_o)), (vQ (pa sb f8_C)), (vI .i64 f8_n.c)] :: tr sb f8_n.a f8_o :: cx sb f8_n.a f8_C :: sg sb (ha sb U0) S f8_n.a :: ro R :: hol U0 :: clf sb 185 sc :: F) ∧ Same w w1__ ∧ (pick O m1 (rmx f8_o) = m2) ∧ (O.Val R m2.1 m2.2)) ?_ ?_
   ·refine cr fun _ hK86_ => ?_
    refine sm (vQ f8_n.a) ?_
    refine sv (v := (vQ f8_n.a)) (by kernel_rfl) ?_
    refine sv (v := (vP (some ⟨f8_n.a, 5, none⟩))) (by kernel_rfl) ?_
    refine sv (v := (vQ (rt sb f8_o))) (x_load1 rfl underlying182 rfl ((Holds.rdf H71_ 0 rfl) 5 (vQ (rt sb f8_o)) rfl)) ?_
    refine sm (vQ sb) ?_
    have hpc87_ : (rt sb f8_o) = sb ↔ (rmx f8_o).isNone = true := Holds.tr_iff H71_ 1 rfl 6 rfl (by decide)
    refine sv (v := (vB (!(rmx f8_o).isNone))) (x_cast (x_nePN rfl rfl underlying182 z185 (by decide) (Holds.tr_rd H71_ 1 rfl 6 rfl).blk (Holds.blk H71_ 6 rfl)) (congrArg vB (dec_nbool hpc87_))) ?_
    refine sm (vB (!(rmx f8_o).isNone)) ?_
    rcases Bool.eq_false_or_eq_true (!(rmx f8_o).isNone) with c88_t | c88_f
    ·skip
     obtain ⟨m89_, m89_h⟩ : ∃ x, (rmx f8_o) = some x := isNone_some (by simpa using c88_t)
     refine S_yes (j := 6) (dj := 50) (b := true) rfl rfl (congrArg vB c88_t) (T_val (v := (vQ f8_n.a)) (x_move rfl) ?_)
     refine S_yes (j := 6) (dj := 50) (b := true) rfl rfl (congrArg vB c88_t) (T_val (v := (vQ f8_n.a)) (by kernel_rfl) ?_)
     refine S_yes (j := 6) (dj := 50) (b := true) rfl rfl (congrArg vB c88_t) (T_val (v := (vP (some ⟨f8_n.a, 5, none⟩))) (by kernel_rfl) ?_)
     refine S_yes (j := 6) (dj := 50) (b := true) rfl rfl (congrArg vB c88_t) (T_val (v := (vQ (rt sb f8_o))) (x_load1 rfl underlying182 rfl ((Holds.rdf H71_ 0 rfl) 5 (vQ (rt sb f8_o)) rfl)) ?_)
     refine S_yes (j := 6) (dj := 50) (b := true) rfl rfl (congrArg vB c88_t) (T_val (v := (vQ (rt sb f8_o))) (by kernel_rfl) ?_)
     refine S_yes (j := 6) (dj := 50) (b := true) rfl rfl (congrArg vB c88_t) (T_val (v := (vP (some ⟨(rt sb f8_o), 3, none⟩))) (by kernel_rfl) ?_)
     refine S_yes (j := 6) (dj := 50) (b := true) rfl rfl (congrArg vB c88_t) (T_val (v := m89_.1) (x_load1 rfl underlying109 rfl ((Holds.tr_rd H71_ 1 rfl 6 rfl).rd m89_ m89_h)) ?_)
     refine S_yes (j := 6) (dj := 50) (b := true) rfl rfl (congrArg vB c88_t) (T_val (v := m1.1) (x_move rfl) ?_)
     refine S_yes (j := 6) (dj := 50) (b := true) rfl rfl (congrArg vB c88_t) (T_cmp rfl rfl (O.cmp (TOk.mx f8_k.2 m89_ m89_h) hv1) H71_ 4 rfl ?_)
     intro w90_ S92_ H91_
     have S93_ := Same.trans S72_ S92_
     refine S_yes (j := 6) (dj := 50) (b := true) rfl rfl (congrArg vB c88_t) (T_val (v := (vB (decide (0 < O.cm m89_.2 m1.2)))) (x_bin rfl rfl rfl) ?_)
     refine S_list (T_pickT (v := (vB (decide (0 < O.cm m89_.2 m1.2)))) (congrArg vB c88_t) rfl ?_)
     refine wn (hK86_ _ _ ?_)
     refine C_cond (b := decide (0 < O.cm m89_.2 m1.2)) rfl (fun c94_t => ?_) (fun c94_f => ?_)
     ·have c94_tp : 0 < O.cm m89_.2 m1.2 := of_decide_eq_true c94_t
      refine C_reg ?_
      refine sm (vQ f8_n.a) ?_
      refine sv (v := (vQ f8_n.a)) (by kernel_rfl) ?_
      refine sv (v := (vP (some ⟨f8_n.a, 5, none⟩))) (by kernel_rfl) ?_
      refine sv (v := (vQ (rt sb f8_o))) (x_load1 rfl underlying182 rfl ((Holds.rdf H91_ 0 rfl) 5 (vQ (rt sb f8_o)) rfl)) ?_
      refine sv (v := (vQ (rt sb f8_o))) (by kernel_rfl) ?_
      refine sv (v := (vP (some ⟨(rt sb f8_o), 3, none⟩))) (by kernel_rfl) ?_
      refine sv (v := m89_.1) (x_load1 rfl underlying109 rfl ((Holds.tr_rd H91_ 1 rfl 6 rfl).rd m89_ m89_h)) ?_
      refine sv (v := m89_.1) (x_assign rfl) ?_
      refine wpList_nil (X_then ?_)
      exact ⟨m89_, _, congrArg (fun e => mkA 81 e []) (ch (ch (ch (ch rfl rfl) rfl) rfl) rfl), H91_, S93_, (by rw [m89_h]; exact pick_gt c94_tp), ((TOk.mx f8_k.2 m89_ m89_h))⟩
     ·have c94_fp : ¬ (0 < O.cm m89_.2 m1.2) := of_decide_eq_false c94_f
      refine C_skip (X_then ?_)
      exact ⟨m1, _, congrArg (fun e => mkA 81 e []) (ch (ch (ch (ch rfl rfl) rfl) rfl) rfl), H91_, S93_, (by rw [m89_h]; exact pick_le c94_fp), (hv1)⟩
    ·skip
     have m95_ : (rmx f8_o) = none := isNone_none (by simpa using c88_f)
     refine S_no (j := 6) (dj := 50) (b := false) rfl rfl (congrArg vB c88_f) (by decide) ?_
     refine S_no (j := 6) (dj := 50) (b := false) rfl rfl (congrArg vB c88_f) (by decide) ?_
     refine S_no (j := 6) (dj := 50) (b := false) rfl rfl (congrArg vB c88_f) (by decide) ?_
     refine S_no (j := 6) (dj := 50) (b := false) rfl rfl (congrArg vB c88_f) (by decide) ?_
     refine S_no (j := 6) (dj := 50) (b := false) rfl rfl (congrArg vB c88_f) (by decide) ?_
     refine S_no (j := 6) (dj := 50) (b := false) rfl rfl (congrArg vB c88_f) (by decide) ?_
     refine S_no (j := 6) (dj := 50) (b := false) rfl rfl (congrArg vB c88_f) (by decide) ?_
     refine S_no (j := 6) (dj := 50) (b := false) rfl rfl (congrArg vB c88_f) (by decide) ?_
     refine S_no (j := 6) (dj := 50) (b := false) rfl rfl (congrArg vB c88_f) (by decide) ?_
     refine S_no (j := 6) (dj := 50) (b := false) rfl rfl (congrArg vB c88_f) (by decide) ?_
     refine S_list (T_pickF (v := (vB false)) (congrArg vB c88_f) rfl ?_)
     refine wn (hK86_ _ _ ?_)
     refine C_condF rfl ?_
     refine C_skip (X_then ?_)
     exact ⟨m1, _, congrArg (fun e => mkA 81 e []) (ch (ch (ch (ch rfl rfl) rfl) rfl) rfl), H71_, S72_, (by rw [m95_]; rfl), (hv1)⟩
   ·rintro _ w83_ ⟨m2, h, rfl, H84_, S85_, hm2, hv2⟩
    refine C_seq (fun _ hK96_ => ?_)
    refine cr fun _ hK97_ => ?_
    refine sv (v := f8_n.mx) (x_move rfl) ?_
    refine sv (v := m2.1) (x_move rfl) ?_
    refine S_list (T_cmp rfl rfl (O.cmp (f8_k.1.m) hv2) H84_ 4 rfl ?_)
    intro w98_ S100_ H99_
    have S101_ := Same.trans S85_ S100_
    refine sv (v := (vB (decide (O.cm f8_n.km m2.2 = 0)))) (x_bin rfl rfl rfl) ?_
    refine wn (hK97_ _ _ ?_)
    refine C_cond (b := decide (O.cm f8_n.km m2.2 = 0)) rfl (fun c102_t => ?_) (fun c102_f => ?_)
    ·have c102_tp : O.cm f8_n.km m2.2 = 0 := of_decide_eq_true c102_t
     refine C_exit (X_thenX (X_blkMiss rfl (X_thenX (X_blkHit ?_))))
     refine R_0 rfl ?_
     have H103_ := Holds.cons_cx (f := (⟨true, f8_n, f8_o⟩ : Fr K)) (x := top (ha sb U0) S) H99_
     have hfin_ : S.reverse ++ ((⟨true, f8_n, f8_o⟩ : Fr K) :: f8_C) = upC O (hmx U0 []) C := by rw [heq, upC_stop (m := m2) (by show pick O (pick O _ _) _ = m2; rw [hm1, hm2]) c102_tp]
     have H104_ := ((Holds.bring H103_ 1 rfl) :)
     have H105_ := Holds.sg_cx (S := S) (C := ((⟨true, f8_n, f8_o⟩ : Fr K) :: f8_C)) H104_
     have H106_ := H105_; rw [hfin_] at H106_
     have H107_ := Holds.pkF H106_ [1, 1, 0, 0] 0
     exact ⟨_, _, rfl, ⟨rfl, rfl⟩, S101_, H107_⟩
    ·have c102_fp : ¬ (O.cm f8_n.km m2.2 = 0) := of_decide_eq_false c102_f
     refine C_skip (X_then (hK96_ _ _ ?_))
     refine cr fun _ hK108_ => ?_
     refine sm (vQ f8_n.a) ?_
     refine sv (v := m2.1) (x_move rfl) ?_
     refine sv (v := (vQ f8_n.a)) (by kernel_rfl) ?_
     refine sv (v := (vP (some ⟨f8_n.a, 3, none⟩))) (by kernel_rfl) ?_
     refine S_list0 (T_store1f (v := m2.1) rfl rfl z109 (O.one hv2) H99_ 0 rfl (Nat.le_of_ble_eq_true (by rfl)) ?_)
     intro w109_ S111_ H110_
     have S112_ := Same.trans S101_ S111_
     refine wn (hK108_ _ _ ?_)
     refine C_reg ?_
     refine sm (vQ f8_n.a) ?_
     refine sv (v := (vQ f8_n.a)) (by kernel_rfl) ?_
     refine sv (v := (vP (some ⟨f8_n.a, 6, none⟩))) (by kernel_rfl) ?_
     refine sv (v := (vQ (pa sb f8_C))) (x_load1 rfl underlying182 rfl ((Holds.rdf H110_ 0 rfl) 6 (vQ (pa sb f8_C)) rfl)) ?_
     refine sv (v := (vQ (pa sb f8_C))) (x_assign rfl) ?_
     refine wpList_nil (X_blkN (X_then ?_))
     have H113_ := ((Holds.bring (Holds.bring (Holds.bring H110_ 3 rfl) 2 rfl) 2 rfl) :)
     have H114_ := Holds.cons_sg (f := (⟨true, f8_n, f8_o⟩ : Fr K).setmx m2) (S := S) H113_
     have eH115_ : cx sb f8_n.a f8_C = cx sb (top (ha sb U0) ((⟨true, f8_n, f8_o⟩ : Fr K).setmx m2 :: S)) f8_C := by first | rfl | (congr 1 <;> first | rfl | omega | (simp; done) | (simp; omega))
     have H115_ : Holds w109_ (sg sb (ha sb U0) ((⟨true, f8_n, f8_o⟩ : Fr K).setmx m2 :: S) (pa sb f8_C) :: cx sb (top (ha sb U0) ((⟨true, f8_n, f8_o⟩ : Fr K).setmx m2 :: S)) f8_C :: ro R :: hol U0 :: clf sb 185 sc :: F) := cast1 (P := fun c__ => Holds w109_ (sg sb (ha sb U0) ((⟨true, f8_n, f8_o⟩ : Fr K).setmx m2 :: S) (pa sb f8_C) :: c__ :: ro R :: hol U0 :: clf sb 185 sc :: F)) eH115_ H114_
     have H116_ := Holds.pkF H115_ [0, 1, 1, 0, 0] 0
     exact ⟨⟨((⟨true, f8_n, f8_o⟩ : Fr K).setmx m2 :: S), f8_C⟩, ⟨_, congrArg (fun e => mkA 81 e []) (ch (ch rfl rfl) rfl), H116_, S112_, (f8_r), (VOk.so_ hv2), (by rw [heq, upC_go (m := m2) (by show pick O (pick O _ _) _ = m2; rw [hm1, hm2]) c102_fp, List.reverse_cons, List.append_assoc]; rfl)⟩, (by simp)⟩
end Go.Proofs.Ytlnihndjepjagaa
set_option linter.unusedVariables false
set_option linter.unusedSimpArgs false
namespace Go.Proofs.Ytlnihndjepjagaa
open Go Go.RowKit Gw Try
open Go.Value renaming int → vI, bool → vB, slice → vS, pointer → vP, agg → vA, tuple → vT

section
variable {K : Type} (O : KO K)
def ra : Nat → List (Fr K) → Nat | h, [] => h | _, f :: C => ra f.n.a C
def upV (h : Option (Value × K)) (f : Fr K) : Value × K := if O.cm f.n.km (fmx O h f).2 = 0 then (f.n.mx, f.n.km) else fmx O h f
def upT (h : Option (Value × K)) (f : Fr K) (C : List (Fr K)) : List (Fr K) := if O.cm f.n.km (fmx O h f).2 = 0 then C else upC O (some (fmx O h f)) C
theorem upC_cons (h : Option (Value × K)) (f : Fr K) (C : List (Fr K)) : upC O h (f :: C) = f.setmx (upV O h f) :: upT O h f C := by
  unfold upV upT
  by_cases hc : O.cm f.n.km (fmx O h f).2 = 0
  · rw [if_pos hc, if_pos hc, upC_stop rfl hc]; rfl
  · rw [if_neg hc, if_neg hc, upC_go rfl hc]
theorem upC_nil (h : Option (Value × K)) : upC O h [] = [] := by cases h <;> rfl
theorem ra_upC : ∀ (C : List (Fr K)) (x : Nat) (h : Option (Value × K)), ra x (upC O h C) = ra x C
  | [], x, h => by rw [upC_nil]
  | f :: C, x, h => by
    rw [upC_cons]
    show ra f.n.a (upT O h f C) = ra f.n.a C
    unfold upT
    split
    · rfl
    · exact ra_upC C _ _
variable {O}
variable {R : HP}
theorem VOk.f {h : Option (Value × K)} {f : Fr K} (hh : VOk O R h) (hn : NOk O R f.n) (ho : TOk O R f.o) : O.Val R (fmx O h f).1 (fmx O h f).2 := by
  unfold fmx
  split
  · exact VOk.pk_ (VOk.pk_ hn.e hh) ho.mx
  · exact VOk.pk_ (VOk.pk_ hn.e ho.mx) hh
theorem VOk.u {h : Option (Value × K)} {f : Fr K} (hh : VOk O R h) (hn : NOk O R f.n) (ho : TOk O R f.o) : O.Val R (upV O h f).1 (upV O h f).2 := by
  unfold upV
  split
  · exact hn.m
  · exact VOk.f hh hn ho
theorem NOk.setmx {n : ND K} {m : Value × K} (hn : NOk O R n) (hm : O.Val R m.1 m.2) : NOk O R (n.setmx m) := ⟨hn.b, hn.e, hm, hn.v⟩
theorem COk.up : ∀ {C : List (Fr K)} {h : Option (Value × K)}, COk O R C → VOk O R h → COk O R (upC O h C)
  | [], h, _, _ => by rw [upC_nil]; exact fun f hf => by cases hf
  | f :: C, h, hC, hh => by
    have hf := hC f (List.mem_cons_self ..)
    have hC' : COk O R C := fun f hf => hC f (List.mem_cons_of_mem _ hf)
    rw [upC_cons]
    intro g hg
    rcases List.mem_cons.1 hg with rfl | hg
    · exact ⟨hf.1.setmx (VOk.u hh hf.1 hf.2), hf.2⟩
    · unfold upT at hg
      split at hg
      · exact hC' g hg
      · exact COk.up hC' (VOk.so_ (VOk.f hh hf.1 hf.2)) g hg
theorem COk.upT {C : List (Fr K)} {h : Option (Value × K)} {f : Fr K} (hC : COk O R C) (hh : VOk O R h) (hn : NOk O R f.n) (ho : TOk O R f.o) : COk O R (Go.Proofs.Ytlnihndjepjagaa.upT O h f C) := by
  unfold Go.Proofs.Ytlnihndjepjagaa.upT
  split
  · exact hC
  · exact COk.up hC (VOk.so_ (VOk.f hh hn ho))
theorem ra_upT (h : Option (Value × K)) (f : Fr K) (C : List (Fr K)) (x : Nat) : ra x (upT O h f C) = ra x C := by
  unfold upT
  split
  · rfl
  · exact ra_upC O C _ _
theorem pa_upC (sb : Nat) (C : List (Fr K)) (h : Option (Value × K)) : pa sb (upC O h C) = pa sb C := by
  cases C with
  | nil => rw [upC_nil]
  | cons f C => rw [upC_cons]; rfl
theorem pa_upT (sb : Nat) (C : List (Fr K)) (h : Option (Value × K)) (f : Fr K) : pa sb (upT O h f C) = pa sb C := by
  unfold upT
  split
  · rfl
  · exact pa_upC sb C _
theorem COk.cons {f : Fr K} {C : List (Fr K)} (hn : NOk O R f.n) (ho : TOk O R f.o) (hC : COk O R C) : COk O R (f :: C) := fun g hg => by
  rcases List.mem_cons.1 hg with rfl | hg
  · exact ⟨hn, ho⟩
  · exact hC g hg
end


set_option maxHeartbeats 8000000 in
theorem itRepl (R : HP) (K : Type) (O : KO K) (tb sb : Nat) (cnt : Int) (sc : List Value) (x y : ND K) (xl xr yl yr yp : Nat) (C : List (Fr K)) (hC : COk O R C) (hy : NOk O R y) :
    Tri Try.prog 175 #[(vQ tb), (vQ x.a), (vQ y.a)] R [cl tb 188 [(vQ (ra x.a C)), (vI .i64 cnt), (vQ sb)], clf x.a 185 [x.b, x.e, x.v, x.mx, (vQ xl), (vQ xr), (vQ (pa sb C)), (vI .i64 x.c)], clf y.a 185 [y.b, y.e, y.v, y.mx, (vQ yl), (vQ yr), (vQ yp), (vI .i64 y.c)], cx sb x.a C, clf sb 185 sc] (fun v__ post__ => v__ = (vT #[]) ∧ post__ = [cl tb 188 [(vQ (ra y.a C)), (vI .i64 cnt), (vQ sb)], clf x.a 185 [x.b, x.e, x.v, x.mx, (vQ xl), (vQ xr), (vQ y.a), (vI .i64 x.c)], clf y.a 185 [y.b, y.e, y.v, y.mx, (vQ yl), (vQ yr), (vQ (pa sb C)), (vI .i64 y.c)], cx sb y.a (upC O (some (y.mx, y.km)) C), clf sb 185 sc]) := by
 refine Tri.into (n := 62) (al := [(vQ tb), (vQ x.a), (vQ y.a)]) func175 rfl ntmps175 rfl rfl fun w F H => ?_
 refine cr fun _ hK1_ => ?_
 rcases C with _ | ⟨⟨_ | _, f2_n, f2_o⟩, f2_C⟩
 ·skip
  have H3_ : Holds w (ro R :: cl tb 188 [(vQ x.a), (vI .i64 cnt), (vQ sb)] :: clf x.a 185 [x.b, x.e, x.v, x.mx, (vQ xl), (vQ xr), (vQ sb), (vI .i64 x.c)] :: clf y.a 185 [y.b, y.e, y.v, y.mx, (vQ yl), (vQ yr), (vQ yp), (vI .i64 y.c)] :: cx sb x.a ([] : List (Fr K)) :: clf sb 185 sc :: F) := (H)
  refine sm (vQ y.a) ?_
  refine sm (vQ x.a) ?_
  refine sv (v := (vQ x.a)) (by kernel_rfl) ?_
  refine sv (v := (vP (some ⟨x.a, 6, none⟩))) (by kernel_rfl) ?_
  refine sv (v := (vQ sb)) (x_load1 rfl underlying182 rfl ((Holds.rdf H3_ 2 rfl) 6 (vQ sb) rfl)) ?_
  refine sv (v := (vQ y.a)) (by kernel_rfl) ?_
  refine sv (v := (vP (some ⟨y.a, 6, none⟩))) (by kernel_rfl) ?_
  refine S_list0 (T_store1f (v := (vQ sb)) rfl rfl z182 rfl H3_ 3 rfl (Nat.le_of_ble_eq_true (by rfl)) ?_)
  intro w4_ S6_ H5_
  have S7_ := Same.trans (Same.refl w) S6_
  refine wn (hK1_ _ _ ?_)
  refine C_seq (fun _ hK8_ => ?_)
  refine C_seq (fun _ hK9_ => ?_)
  refine A_start (S := fun w => Rd tb [(vQ x.a), (vI .i64 cnt), (vQ sb)] w ∧ (Rd x.a [x.b, x.e, x.v, x.mx, (vQ xl), (vQ xr), (vQ sb), (vI .i64 x.c)] w ∧ Blk w x.a) ∧ Sub R (hp w)) (N := 9) foll rfl rfl ?_
  have H10_ := Holds.drew_ H5_
  have hq11_ := And.intro (Holds.rd H10_ 1 rfl) (And.intro ((And.intro (Holds.rdf H10_ 2 rfl) (Holds.blk H10_ 2 rfl))) ((Holds.ro_at H10_ 0 rfl)))
  refine A_tk 0 (v := (vQ x.a)) rfl (by kernel_rfl) (fun w hS => x_move rfl) hq11_ ?_
  refine A_tk 1 (v := (vQ x.a)) rfl (by kernel_rfl) (fun w hS => by kernel_rfl) hq11_ ?_
  refine A_tk 2 (v := (vP (some ⟨x.a, 6, none⟩))) rfl (by kernel_rfl) (fun w hS => by kernel_rfl) hq11_ ?_
  refine A_tk 3 (v := (vQ sb)) rfl (by kernel_rfl) (fun w hS => x_load1 rfl underlying182 rfl (hS.2.1.1 6 (vQ sb) rfl)) hq11_ ?_
  refine A_tk 4 (v := (vQ tb)) rfl (by kernel_rfl) (fun w hS => x_move rfl) hq11_ ?_
  refine A_tk 5 (v := (vQ tb)) rfl (by kernel_rfl) (fun w hS => by kernel_rfl) hq11_ ?_
  refine A_tk 6 (v := (vP (some ⟨tb, 2, none⟩))) rfl (by kernel_rfl) (fun w hS => by kernel_rfl) hq11_ ?_
  refine A_tk 7 (v := (vQ sb)) rfl (by kernel_rfl) (fun w hS => x_load1 rfl underlying182 rfl (hS.1 2 (vQ sb) rfl)) hq11_ ?_
  refine A_tk 8 (v := (vB true)) rfl (by kernel_rfl) (fun w hS => x_eqP rfl rfl underlying182 z185) hq11_ ?_
  refine A_done (by kernel_rfl) ?_
  refine (X_then (hK9_ _ _ ?_))
  refine C_condT rfl ?_
  refine C_reg ?_
  refine sm (vQ tb) ?_
  refine sm (vQ y.a) ?_
  refine sv (v := (vQ tb)) (by kernel_rfl) ?_
  refine sv (v := (vQ tb)) (by kernel_rfl) ?_
  refine S_list0 (T_store1 (v := (vQ y.a)) rfl rfl z182 rfl H10_ 1 rfl (Nat.le_of_ble_eq_true (by rfl)) ?_)
  intro w12_ S14_ H13_
  have S15_ := Same.trans (Same.trans S7_ (Same.drew _)) S14_
  refine wn (hK8_ _ _ ?_)
  refine C_reg ?_
  refine sm (vQ x.a) ?_
  refine sm (vQ y.a) ?_
  refine sv (v := (vQ x.a)) (by kernel_rfl) ?_
  refine sv (v := (vP (some ⟨x.a, 6, none⟩))) (by kernel_rfl) ?_
  refine S_list0 (T_store1f (v := (vQ y.a)) rfl rfl z182 rfl H13_ 2 rfl (Nat.le_of_ble_eq_true (by rfl)) ?_)
  intro w16_ S18_ H17_
  have S19_ := Same.trans S15_ S18_
  refine wpList_nil ?_
  refine R_0 rfl ?_
  have H20_ := H17_
  have H21_ := H20_
  have eH22_ : cx sb y.a (upC O (some (y.mx, y.km)) []) = cx sb y.a (upC O (some (y.mx, y.km)) ([] : List (Fr K))) := by first | rfl | (congr 1 <;> first | rfl | omega | (simp; done) | (simp; omega))
  have H22_ : Holds w16_ (ro R :: cl tb 188 [(vQ ((ra y.a ([] : List (Fr K))))), (vI .i64 cnt), (vQ sb)] :: clf x.a 185 [x.b, x.e, x.v, x.mx, (vQ xl), (vQ xr), (vQ y.a), (vI .i64 x.c)] :: clf y.a 185 [y.b, y.e, y.v, y.mx, (vQ yl), (vQ yr), (vQ ((pa sb ([] : List (Fr K))))), (vI .i64 y.c)] :: cx sb y.a (upC O (some (y.mx, y.km)) ([] : List (Fr K))) :: clf sb 185 sc :: F) := cast1 (P := fun c__ => Holds w16_ (ro R :: cl tb 188 [(vQ ((ra y.a ([] : List (Fr K))))), (vI .i64 cnt), (vQ sb)] :: clf x.a 185 [x.b, x.e, x.v, x.mx, (vQ xl), (vQ xr), (vQ y.a), (vI .i64 x.c)] :: clf y.a 185 [y.b, y.e, y.v, y.mx, (vQ yl), (vQ yr), (vQ ((pa sb ([] : List (Fr K))))), (vI .i64 y.c)] :: c__ :: clf sb 185 sc :: F)) eH22_ H21_
  exact ⟨_, _, rfl, ⟨rfl, rfl⟩, S19_, H22_⟩
 ·skip
  have H23_ : Holds w (ro R :: cl tb 188 [(vQ (ra f2_n.a f2_C)), (vI .i64 cnt), (vQ sb)] :: clf x.a 185 [x.b, x.e, x.v, x.mx, (vQ xl), (vQ xr), (vQ f2_n.a), (vI .i64 x.c)] :: clf y.a 185 [y.b, y.e, y.v, y.mx, (vQ yl), (vQ yr), (vQ yp), (vI .i64 y.c)] :: cx sb x.a ((⟨false, f2_n, f2_o⟩ : Fr K) :: f2_C) :: clf sb 185 sc :: F) := (H)
  have H24_ := ((Holds.bring H23_ 4 rfl) :)
  have H25_ := Holds.cx_cons H24_
  refine sm (vQ y.a) ?_
  refine sm (vQ x.a) ?_
  refine sv (v := (vQ x.a)) (by kernel_rfl) ?_
  refine sv (v := (vP (some ⟨x.a, 6, none⟩))) (by kernel_rfl) ?_
  refine sv (v := (vQ f2_n.a)) (x_load1 rfl underlying182 rfl ((Holds.rdf H25_ 5 rfl) 6 (vQ f2_n.a) rfl)) ?_
  refine sv (v := (vQ y.a)) (by kernel_rfl) ?_
  refine sv (v := (vP (some ⟨y.a, 6, none⟩))) (by kernel_rfl) ?_
  refine S_list0 (T_store1f (v := (vQ f2_n.a)) rfl rfl z182 rfl H25_ 6 rfl (Nat.le_of_ble_eq_true (by rfl)) ?_)
  intro w26_ S28_ H27_
  have S29_ := Same.trans (Same.refl w) S28_
  refine wn (hK1_ _ _ ?_)
  refine C_seq (fun _ hK30_ => ?_)
  refine C_seq (fun _ hK31_ => ?_)
  refine A_start (S := fun w => (Rd f2_n.a [f2_n.b, f2_n.e, f2_n.v, f2_n.mx, (vQ (rt sb f2_o)), (vQ x.a), (vQ (pa sb f2_C)), (vI .i64 f2_n.c)] w ∧ Blk w f2_n.a) ∧ RtRd w (rt sb f2_o) (rmx f2_o) ∧ Rd tb [(vQ (ra f2_n.a f2_C)), (vI .i64 cnt), (vQ sb)] w ∧ (Rd x.a [x.b, x.e, x.v, x.mx, (vQ xl), (vQ xr), (vQ f2_n.a), (vI .i64 x.c)] w ∧ Blk w x.a) ∧ Sub R (hp w)) (N := 9) foll rfl rfl ?_
  have H32_ := Holds.drew_ H27_
  have hq33_ := And.intro ((And.intro (Holds.rdf H32_ 0 rfl) (Holds.blk H32_ 0 rfl))) (And.intro (Holds.tr_rd H32_ 1 rfl 7 rfl) (And.intro (Holds.rd H32_ 4 rfl) (And.intro ((And.intro (Holds.rdf H32_ 5 rfl) (Holds.blk H32_ 5 rfl))) ((Holds.ro_at H32_ 3 rfl)))))
  refine A_tk 0 (v := (vQ x.a)) rfl (by kernel_rfl) (fun w hS => x_move rfl) hq33_ ?_
  refine A_tk 1 (v := (vQ x.a)) rfl (by kernel_rfl) (fun w hS => by kernel_rfl) hq33_ ?_
  refine A_tk 2 (v := (vP (some ⟨x.a, 6, none⟩))) rfl (by kernel_rfl) (fun w hS => by kernel_rfl) hq33_ ?_
  refine A_tk 3 (v := (vQ f2_n.a)) rfl (by kernel_rfl) (fun w hS => x_load1 rfl underlying182 rfl (hS.2.2.2.1.1 6 (vQ f2_n.a) rfl)) hq33_ ?_
  refine A_tk 4 (v := (vQ tb)) rfl (by kernel_rfl) (fun w hS => x_move rfl) hq33_ ?_
  refine A_tk 5 (v := (vQ tb)) rfl (by kernel_rfl) (fun w hS => by kernel_rfl) hq33_ ?_
  refine A_tk 6 (v := (vP (some ⟨tb, 2, none⟩))) rfl (by kernel_rfl) (fun w hS => by kernel_rfl) hq33_ ?_
  refine A_tk 7 (v := (vQ sb)) rfl (by kernel_rfl) (fun w hS => x_load1 rfl underlying182 rfl (hS.2.2.1 2 (vQ sb) rfl)) hq33_ ?_
  have hpc34_ : f2_n.a ≠ sb := Holds.ne_f H32_ 0 rfl 7 rfl (by decide)
  refine A_ready (i := 8) (rs := []) (by kernel_rfl) ?_
  refine AllR.cons ?_ AllR.nil
  refine A_op (ls' := #[true, true, true, true, true, true, true, true, true]) rfl (by kernel_rfl) (T_val (v := (vB false)) (x_cast (x_eqPN rfl rfl underlying182 z185 (by decide) (Holds.blk H32_ 0 rfl) (Holds.blk H32_ 7 rfl)) (congrArg vB (decide_eq_false hpc34_))) ?_)
  refine ⟨⟨(And.intro (Holds.rdf H32_ 0 rfl) (Holds.blk H32_ 0 rfl)), Holds.tr_rd H32_ 1 rfl 7 rfl, Holds.rd H32_ 4 rfl, (And.intro (Holds.rdf H32_ 5 rfl) (Holds.blk H32_ 5 rfl)), (Holds.ro_at H32_ 3 rfl)⟩, ?_⟩
  refine A_done (by kernel_rfl) ?_
  refine (X_then (hK31_ _ _ ?_))
  refine C_condF rfl ?_
  refine C_seq (fun _ hK35_ => ?_)
  refine cr fun _ hK36_ => ?_
  refine sm (vQ x.a) ?_
  refine sm (vQ x.a) ?_
  refine sv (v := (vQ x.a)) (by kernel_rfl) ?_
  refine sv (v := (vP (some ⟨x.a, 6, none⟩))) (by kernel_rfl) ?_
  refine sv (v := (vQ f2_n.a)) (x_load1 rfl underlying182 rfl ((Holds.rdf H32_ 5 rfl) 6 (vQ f2_n.a) rfl)) ?_
  refine sv (v := (vQ f2_n.a)) (by kernel_rfl) ?_
  refine sv (v := (vP (some ⟨f2_n.a, 4, none⟩))) (by kernel_rfl) ?_
  refine sv (v := (vQ (rt sb f2_o))) (x_load1 rfl underlying182 rfl ((Holds.rdf H32_ 0 rfl) 4 (vQ (rt sb f2_o)) rfl)) ?_
  have hpc38_ : x.a ≠ sb := Holds.ne_f H32_ 5 rfl 7 rfl (by decide)
  have hpc37_ : x.a ≠ (rt sb f2_o) := Holds.ne_tr H32_ 5 rfl 1 rfl (by decide) hpc38_
  refine sv (v := (vB false)) (x_cast (x_eqPN rfl rfl underlying182 z185 (by decide) (Holds.blk H32_ 5 rfl) (Holds.tr_rd H32_ 1 rfl 7 rfl).blk) (congrArg vB (decide_eq_false hpc37_))) ?_
  refine wn (hK36_ _ _ ?_)
  refine C_condF rfl ?_
  refine C_reg ?_
  refine sm (vQ x.a) ?_
  refine sv (v := (vQ x.a)) (by kernel_rfl) ?_
  refine sv (v := (vP (some ⟨x.a, 6, none⟩))) (by kernel_rfl) ?_
  refine sv (v := (vQ f2_n.a)) (x_load1 rfl underlying182 rfl ((Holds.rdf H32_ 5 rfl) 6 (vQ f2_n.a) rfl)) ?_
  refine sm (vQ y.a) ?_
  refine sv (v := (vQ f2_n.a)) (by kernel_rfl) ?_
  refine sv (v := (vP (some ⟨f2_n.a, 5, none⟩))) (by kernel_rfl) ?_
  refine S_list0 (T_store1f (v := (vQ y.a)) rfl rfl z182 rfl H32_ 0 rfl (Nat.le_of_ble_eq_true (by rfl)) ?_)
  intro w39_ S41_ H40_
  have S42_ := Same.trans (Same.trans S29_ (Same.drew _)) S41_
  refine wn (hK35_ _ _ ?_)
  refine A_start (S := fun w => Rd tb [(vQ (ra f2_n.a f2_C)), (vI .i64 cnt), (vQ sb)] w ∧ (Rd x.a [x.b, x.e, x.v, x.mx, (vQ xl), (vQ xr), (vQ f2_n.a), (vI .i64 x.c)] w ∧ Blk w x.a) ∧ (Rd y.a [y.b, y.e, y.v, y.mx, (vQ yl), (vQ yr), (vQ f2_n.a), (vI .i64 y.c)] w ∧ Blk w y.a) ∧ Sub R (hp w)) (N := 9) foll rfl rfl ?_
  have H43_ := Holds.drew_ H40_
  have hq44_ := And.intro (Holds.rd H43_ 4 rfl) (And.intro ((And.intro (Holds.rdf H43_ 5 rfl) (Holds.blk H43_ 5 rfl))) (And.intro ((And.intro (Holds.rdf H43_ 6 rfl) (Holds.blk H43_ 6 rfl))) ((Holds.ro_at H43_ 3 rfl))))
  refine A_tk 0 (v := (vQ x.a)) rfl (by kernel_rfl) (fun w hS => x_move rfl) hq44_ ?_
  refine A_tk 1 (v := (vQ x.a)) rfl (by kernel_rfl) (fun w hS => by kernel_rfl) hq44_ ?_
  refine A_tk 2 (v := (vP (some ⟨x.a, 6, none⟩))) rfl (by kernel_rfl) (fun w hS => by kernel_rfl) hq44_ ?_
  refine A_tk 3 (v := (vQ f2_n.a)) rfl (by kernel_rfl) (fun w hS => x_load1 rfl underlying182 rfl (hS.2.1.1 6 (vQ f2_n.a) rfl)) hq44_ ?_
  refine A_tk 4 (v := (vQ tb)) rfl (by kernel_rfl) (fun w hS => x_move rfl) hq44_ ?_
  refine A_tk 5 (v := (vQ tb)) rfl (by kernel_rfl) (fun w hS => by kernel_rfl) hq44_ ?_
  refine A_tk 6 (v := (vP (some ⟨tb, 2, none⟩))) rfl (by kernel_rfl) (fun w hS => by kernel_rfl) hq44_ ?_
  refine A_tk 7 (v := (vQ sb)) rfl (by kernel_rfl) (fun w hS => x_load1 rfl underlying182 rfl (hS.1 2 (vQ sb) rfl)) hq44_ ?_
  refine A_ready (i := 8) (rs := []) (by kernel_rfl) ?_
  refine AllR.cons ?_ AllR.nil
  have H45_ := Holds.cons_cx (f := (⟨false, f2_n, f2_o⟩ : Fr K)) (x := y.a) H43_
  have H46_ := H45_
  have H48_ := ((Holds.bring (Holds.bring (Holds.bring (Holds.bring H46_ 5 rfl) 1 rfl) 5 rfl) 3 rfl) :)
  refine A_op (ls' := #[true, true, true, true, true, true, true, true, true]) rfl (by kernel_rfl) (T_call (al := [(vP (some ⟨(pa sb ((⟨false, f2_n, f2_o⟩ : Fr K) :: f2_C)), 0, none⟩)), (vQ sb)]) (pre := [hol (some (y, yl, yr, f2_n.a)), cx sb (ha sb (some (y, yl, yr, f2_n.a))) ((⟨false, f2_n, f2_o⟩ : Fr K) :: f2_C), clf sb 185 sc]) rfl (lcons ((by first | rfl | omega | (simp; done) | (simp; omega)) : (vQ f2_n.a) = (vP (some ⟨(pa sb ((⟨false, f2_n, f2_o⟩ : Fr K) :: f2_C)), 0, none⟩))) rfl) cb142 (itUpMax R K O sb sc (some (y, yl, yr, f2_n.a)) ((⟨false, f2_n, f2_o⟩ : Fr K) :: f2_C) (hC) (fun z hz => by cases hz; exact hy.m)) H48_ ?_)
  rintro v47_ p52_ w49_ ⟨rfl, rfl⟩ S51_ H50_
  have S53_ := Same.trans (Same.trans S42_ (Same.drew _)) S51_
  have H54_ : Holds w49_ (ro R :: clf y.a 185 [y.b, y.e, y.v, y.mx, (vQ yl), (vQ yr), (vQ f2_n.a), (vI .i64 y.c)] :: cx sb y.a (upC O (some (y.mx, y.km)) ((⟨false, f2_n, f2_o⟩ : Fr K) :: f2_C)) :: clf sb 185 sc :: cl tb 188 [(vQ (ra f2_n.a f2_C)), (vI .i64 cnt), (vQ sb)] :: clf x.a 185 [x.b, x.e, x.v, x.mx, (vQ xl), (vQ xr), (vQ f2_n.a), (vI .i64 x.c)] :: F) := (H50_)
  refine ⟨⟨Holds.rd H54_ 4 rfl, (And.intro (Holds.rdf H54_ 5 rfl) (Holds.blk H54_ 5 rfl)), (And.intro (Holds.rdf H54_ 1 rfl) (Holds.blk H54_ 1 rfl)), (Holds.ro_at H54_ 0 rfl)⟩, ?_⟩
  refine A_done (by kernel_rfl) ?_
  refine (X_then (hK30_ _ _ ?_))
  refine C_reg ?_
  refine sm (vQ x.a) ?_
  refine sm (vQ y.a) ?_
  refine sv (v := (vQ x.a)) (by kernel_rfl) ?_
  refine sv (v := (vP (some ⟨x.a, 6, none⟩))) (by kernel_rfl) ?_
  refine S_list0 (T_store1f (v := (vQ y.a)) rfl rfl z182 rfl H54_ 5 rfl (Nat.le_of_ble_eq_true (by rfl)) ?_)
  intro w55_ S57_ H56_
  have S58_ := Same.trans S53_ S57_
  refine wpList_nil ?_
  refine R_0 rfl ?_
  have H59_ := Holds.recl H56_ 4 rfl ((lcons ((by first | rfl | omega | (simp; done) | (simp; omega)) : (vQ (ra f2_n.a f2_C)) = (vP (some ⟨(ra y.a ((⟨false, f2_n, f2_o⟩ : Fr K) :: f2_C)), 0, none⟩))) rfl) : [(vQ (ra f2_n.a f2_C)), (vI .i64 cnt), (vQ sb)] = [(vP (some ⟨(ra y.a ((⟨false, f2_n, f2_o⟩ : Fr K) :: f2_C)), 0, none⟩)), (vI .i64 cnt), (vQ sb)])
  have H60_ := H59_
  have H61_ := Holds.pkF H60_ [0, 3, 3, 0, 0, 0] 0
  exact ⟨_, _, rfl, ⟨rfl, rfl⟩, S58_, H61_⟩
 ·skip
  have H62_ : Holds w (ro R :: cl tb 188 [(vQ (ra f2_n.a f2_C)), (vI .i64 cnt), (vQ sb)] :: clf x.a 185 [x.b, x.e, x.v, x.mx, (vQ xl), (vQ xr), (vQ f2_n.a), (vI .i64 x.c)] :: clf y.a 185 [y.b, y.e, y.v, y.mx, (vQ yl), (vQ yr), (vQ yp), (vI .i64 y.c)] :: cx sb x.a ((⟨true, f2_n, f2_o⟩ : Fr K) :: f2_C) :: clf sb 185 sc :: F) := (H)
  have H63_ := ((Holds.bring H62_ 4 rfl) :)
  have H64_ := Holds.cx_cons H63_
  refine sm (vQ y.a) ?_
  refine sm (vQ x.a) ?_
  refine sv (v := (vQ x.a)) (by kernel_rfl) ?_
  refine sv (v := (vP (some ⟨x.a, 6, none⟩))) (by kernel_rfl) ?_
  refine sv (v := (vQ f2_n.a)) (x_load1 rfl underlying182 rfl ((Holds.rdf H64_ 5 rfl) 6 (vQ f2_n.a) rfl)) ?_
  refine sv (v := (vQ y.a)) (by kernel_rfl) ?_
  refine sv (v := (vP (some ⟨y.a, 6, none⟩))) (by kernel_rfl) ?_
  refine S_list0 (T_store1f (v := (vQ f2_n.a)) rfl rfl z182 rfl H64_ 6 rfl (Nat.le_of_ble_eq_true (by rfl)) ?_)
  intro w65_ S67_ H66_
  have S68_ := Same.trans (Same.refl w) S67_
  refine wn (hK1_ _ _ ?_)
  refine C_seq (fun _ hK69_ => ?_)
  refine C_seq (fun _ hK70_ => ?_)
  refine A_start (S := fun w => (Rd f2_n.a [f2_n.b, f2_n.e, f2_n.v, f2_n.mx, (vQ x.a), (vQ (rt sb f2_o)), (vQ (pa sb f2_C)), (vI .i64 f2_n.c)] w ∧ Blk w f2_n.a) ∧ RtRd w (rt sb f2_o) (rmx f2_o) ∧ Rd tb [(vQ (ra f2_n.a f2_C)), (vI .i64 cnt), (vQ sb)] w ∧ (Rd x.a [x.b, x.e, x.v, x.mx, (vQ xl), (vQ xr), (vQ f2_n.a), (vI .i64 x.c)] w ∧ Blk w x.a) ∧ Sub R (hp w)) (N := 9) foll rfl rfl ?_
  have H71_ := Holds.drew_ H66_
  have hq72_ := And.intro ((And.intro (Holds.rdf H71_ 0 rfl) (Holds.blk H71_ 0 rfl))) (And.intro (Holds.tr_rd H71_ 1 rfl 7 rfl) (And.intro (Holds.rd H71_ 4 rfl) (And.intro ((And.intro (Holds.rdf H71_ 5 rfl) (Holds.blk H71_ 5 rfl))) ((Holds.ro_at H71_ 3 rfl)))))
  refine A_tk 0 (v := (vQ x.a)) rfl (by kernel_rfl) (fun w hS => x_move rfl) hq72_ ?_
  refine A_tk 1 (v := (vQ x.a)) rfl (by kernel_rfl) (fun w hS => by kernel_rfl) hq72_ ?_
  refine A_tk 2 (v := (vP (some ⟨x.a, 6, none⟩))) rfl (by kernel_rfl) (fun w hS => by kernel_rfl) hq72_ ?_
  refine A_tk 3 (v := (vQ f2_n.a)) rfl (by kernel_rfl) (fun w hS => x_load1 rfl underlying182 rfl (hS.2.2.2.1.1 6 (vQ f2_n.a) rfl)) hq72_ ?_
  refine A_tk 4 (v := (vQ tb)) rfl (by kernel_rfl) (fun w hS => x_move rfl) hq72_ ?_
  refine A_tk 5 (v := (vQ tb)) rfl (by kernel_rfl) (fun w hS => by kernel_rfl) hq72_ ?_
  refine A_tk 6 (v := (vP (some ⟨tb, 2, none⟩))) rfl (by kernel_rfl) (fun w hS => by kernel_rfl) hq72_ ?_
  refine A_tk 7 (v := (vQ sb)) rfl (by kernel_rfl) (fun w hS => x_load1 rfl underlying182 rfl (hS.2.2.1 2 (vQ sb) rfl)) hq72_ ?_
  have hpc73_ : f2_n.a ≠ sb := Holds.ne_f H71_ 0 rfl 7 rfl (by decide)
  refine A_ready (i := 8) (rs := []) (by kernel_rfl) ?_
  refine AllR.cons ?_ AllR.nil
  refine A_op (ls' := #[true, true, true, true, true, true, true, true, true]) rfl (by kernel_rfl) (T_val (v := (vB false)) (x_cast (x_eqPN rfl rfl underlying182 z185 (by decide) (Holds.blk H71_ 0 rfl) (Holds.blk H71_ 7 rfl)) (congrArg vB (decide_eq_false hpc73_))) ?_)
  refine ⟨⟨(And.intro (Holds.rdf H71_ 0 rfl) (Holds.blk H71_ 0 rfl)), Holds.tr_rd H71_ 1 rfl 7 rfl, Holds.rd H71_ 4 rfl, (And.intro (Holds.rdf H71_ 5 rfl) (Holds.blk H71_ 5 rfl)), (Holds.ro_at H71_ 3 rfl)⟩, ?_⟩
  refine A_done (by kernel_rfl) ?_
  refine (X_then (hK70_ _ _ ?_))
  refine C_condF rfl ?_
  refine C_seq (fun _ hK74_ => ?_)
  refine cr fun _ hK75_ => ?_
  refine sm (vQ x.a) ?_
  refine sm (vQ x.a) ?_
  refine sv (v := (vQ x.a)) (by kernel_rfl) ?_
  refine sv (v := (vP (some ⟨x.a, 6, none⟩))) (by kernel_rfl) ?_
  refine sv (v := (vQ f2_n.a)) (x_load1 rfl underlying182 rfl ((Holds.rdf H71_ 5 rfl) 6 (vQ f2_n.a) rfl)) ?_
  refine sv (v := (vQ f2_n.a)) (by kernel_rfl) ?_
  refine sv (v := (vP (some ⟨f2_n.a, 4, none⟩))) (by kernel_rfl) ?_
  refine sv (v := (vQ x.a)) (x_load1 rfl underlying182 rfl ((Holds.rdf H71_ 0 rfl) 4 (vQ x.a) rfl)) ?_
  refine sv (v := (vB true)) (x_eqP rfl rfl underlying182 z185) ?_
  refine wn (hK75_ _ _ ?_)
  refine C_condT rfl ?_
  refine C_reg ?_
  refine sm (vQ x.a) ?_
  refine sv (v := (vQ x.a)) (by kernel_rfl) ?_
  refine sv (v := (vP (some ⟨x.a, 6, none⟩))) (by kernel_rfl) ?_
  refine sv (v := (vQ f2_n.a)) (x_load1 rfl underlying182 rfl ((Holds.rdf H71_ 5 rfl) 6 (vQ f2_n.a) rfl)) ?_
  refine sm (vQ y.a) ?_
  refine sv (v := (vQ f2_n.a)) (by kernel_rfl) ?_
  refine sv (v := (vP (some ⟨f2_n.a, 4, none⟩))) (by kernel_rfl) ?_
  refine S_list0 (T_store1f (v := (vQ y.a)) rfl rfl z182 rfl H71_ 0 rfl (Nat.le_of_ble_eq_true (by rfl)) ?_)
  intro w76_ S78_ H77_
  have S79_ := Same.trans (Same.trans S68_ (Same.drew _)) S78_
  refine wn (hK74_ _ _ ?_)
  refine A_start (S := fun w => Rd tb [(vQ (ra f2_n.a f2_C)), (vI .i64 cnt), (vQ sb)] w ∧ (Rd x.a [x.b, x.e, x.v, x.mx, (vQ xl), (vQ xr), (vQ f2_n.a), (vI .i64 x.c)] w ∧ Blk w x.a) ∧ (Rd y.a [y.b, y.e, y.v, y.mx, (vQ yl), (vQ yr), (vQ f2_n.a), (vI .i64 y.c)] w ∧ Blk w y.a) ∧ Sub R (hp w)) (N := 9) foll rfl rfl ?_
  have H80_ := Holds.drew_ H77_
  have hq81_ := And.intro (Holds.rd H80_ 4 rfl) (And.intro ((And.intro (Holds.rdf H80_ 5 rfl) (Holds.blk H80_ 5 rfl))) (And.intro ((And.intro (Holds.rdf H80_ 6 rfl) (Holds.blk H80_ 6 rfl))) ((Holds.ro_at H80_ 3 rfl))))
  refine A_tk 0 (v := (vQ x.a)) rfl (by kernel_rfl) (fun w hS => x_move rfl) hq81_ ?_
  refine A_tk 1 (v := (vQ x.a)) rfl (by kernel_rfl) (fun w hS => by kernel_rfl) hq81_ ?_
  refine A_tk 2 (v := (vP (some ⟨x.a, 6, none⟩))) rfl (by kernel_rfl) (fun w hS => by kernel_rfl) hq81_ ?_
  refine A_tk 3 (v := (vQ f2_n.a)) rfl (by kernel_rfl) (fun w hS => x_load1 rfl underlying182 rfl (hS.2.1.1 6 (vQ f2_n.a) rfl)) hq81_ ?_
  refine A_tk 4 (v := (vQ tb)) rfl (by kernel_rfl) (fun w hS => x_move rfl) hq81_ ?_
  refine A_tk 5 (v := (vQ tb)) rfl (by kernel_rfl) (fun w hS => by kernel_rfl) hq81_ ?_
  refine A_tk 6 (v := (vP (some ⟨tb, 2, none⟩))) rfl (by kernel_rfl) (fun w hS => by kernel_rfl) hq81_ ?_
  refine A_tk 7 (v := (vQ sb)) rfl (by kernel_rfl) (fun w hS => x_load1 rfl underlying182 rfl (hS.1 2 (vQ sb) rfl)) hq81_ ?_
  refine A_ready (i := 8) (rs := []) (by kernel_rfl) ?_
  refine AllR.cons ?_ AllR.nil
  have H82_ := Holds.cons_cx (f := (⟨true, f2_n, f2_o⟩ : Fr K)) (x := y.a) H80_
  have H83_ := H82_
  have H85_ := ((Holds.bring (Holds.bring (Holds.bring (Holds.bring H83_ 5 rfl) 1 rfl) 5 rfl) 3 rfl) :)
  refine A_op (ls' := #[true, true, true, true, true, true, true, true, true]) rfl (by kernel_rfl) (T_call (al := [(vP (some ⟨(pa sb ((⟨true, f2_n, f2_o⟩ : Fr K) :: f2_C)), 0, none⟩)), (vQ sb)]) (pre := [hol (some (y, yl, yr, f2_n.a)), cx sb (ha sb (some (y, yl, yr, f2_n.a))) ((⟨true, f2_n, f2_o⟩ : Fr K) :: f2_C), clf sb 185 sc]) rfl (lcons ((by first | rfl | omega | (simp; done) | (simp; omega)) : (vQ f2_n.a) = (vP (some ⟨(pa sb ((⟨true, f2_n, f2_o⟩ : Fr K) :: f2_C)), 0, none⟩))) rfl) cb142 (itUpMax R K O sb sc (some (y, yl, yr, f2_n.a)) ((⟨true, f2_n, f2_o⟩ : Fr K) :: f2_C) (hC) (fun z hz => by cases hz; exact hy.m)) H85_ ?_)
  rintro v84_ p89_ w86_ ⟨rfl, rfl⟩ S88_ H87_
  have S90_ := Same.trans (Same.trans S79_ (Same.drew _)) S88_
  have H91_ : Holds w86_ (ro R :: clf y.a 185 [y.b, y.e, y.v, y.mx, (vQ yl), (vQ yr), (vQ f2_n.a), (vI .i64 y.c)] :: cx sb y.a (upC O (some (y.mx, y.km)) ((⟨true, f2_n, f2_o⟩ : Fr K) :: f2_C)) :: clf sb 185 sc :: cl tb 188 [(vQ (ra f2_n.a f2_C)), (vI .i64 cnt), (vQ sb)] :: clf x.a 185 [x.b, x.e, x.v, x.mx, (vQ xl), (vQ xr), (vQ f2_n.a), (vI .i64 x.c)] :: F) := (H87_)
  refine ⟨⟨Holds.rd H91_ 4 rfl, (And.intro (Holds.rdf H91_ 5 rfl) (Holds.blk H91_ 5 rfl)), (And.intro (Holds.rdf H91_ 1 rfl) (Holds.blk H91_ 1 rfl)), (Holds.ro_at H91_ 0 rfl)⟩, ?_⟩
  refine A_done (by kernel_rfl) ?_
  refine (X_then (hK69_ _ _ ?_))
  refine C_reg ?_
  refine sm (vQ x.a) ?_
  refine sm (vQ y.a) ?_
  refine sv (v := (vQ x.a)) (by kernel_rfl) ?_
  refine sv (v := (vP (some ⟨x.a, 6, none⟩))) (by kernel_rfl) ?_
  refine S_list0 (T_store1f (v := (vQ y.a)) rfl rfl z182 rfl H91_ 5 rfl (Nat.le_of_ble_eq_true (by rfl)) ?_)
  intro w92_ S94_ H93_
  have S95_ := Same.trans S90_ S94_
  refine wpList_nil ?_
  refine R_0 rfl ?_
  have H96_ := Holds.recl H93_ 4 rfl ((lcons ((by first | rfl | omega | (simp; done) | (simp; omega)) : (vQ (ra f2_n.a f2_C)) = (vP (some ⟨(ra y.a ((⟨true, f2_n, f2_o⟩ : Fr K) :: f2_C)), 0, none⟩))) rfl) : [(vQ (ra f2_n.a f2_C)), (vI .i64 cnt), (vQ sb)] = [(vP (some ⟨(ra y.a ((⟨true, f2_n, f2_o⟩ : Fr K) :: f2_C)), 0, none⟩)), (vI .i64 cnt), (vQ sb)])
  have H97_ := H96_
  have H98_ := Holds.pkF H97_ [0, 3, 3, 0, 0, 0] 0
  exact ⟨_, _, rfl, ⟨rfl, rfl⟩, S95_, H98_⟩
end Go.Proofs.Ytlnihndjepjagaa
set_option linter.unusedVariables false
set_option linter.unusedSimpArgs false
namespace Go.Proofs.Ytlnihndjepjagaa
open Go Go.RowKit Gw Try
open Go.Value renaming int → vI, bool → vB, slice → vS, pointer → vP, agg → vA, tuple → vT

section
variable {K : Type}
theorem Holds.hol_none {w : World} {l : List SP} (h : Holds w l) : Holds w (hol (none : Option (ND K × Nat × Nat × Nat)) :: l) := Sat.add_free (fun _ => trivial) h
variable (O : KO K)
def rV1 (d : Bool) (x : ND K) (A B : Tr K) : Value × K := upV O (rmx B) ⟨!d, x, A⟩
def rC1 (d : Bool) (x : ND K) (A B : Tr K) (C : List (Fr K)) : List (Fr K) := upT O (rmx B) ⟨!d, x, A⟩ C
def rC2 (d : Bool) (x y : ND K) (A B : Tr K) (C : List (Fr K)) : List (Fr K) := upC O (some (y.mx, y.km)) (rC1 O d x A B C)
def rV2 (d : Bool) (x y : ND K) (A B D : Tr K) : Value × K := upV O (some (rV1 O d x A B)) ⟨d, y, D⟩
def rC3 (d : Bool) (x y : ND K) (A B D : Tr K) (C : List (Fr K)) : List (Fr K) := upT O (some (rV1 O d x A B)) ⟨d, y, D⟩ (rC2 O d x y A B C)
def rTx (d : Bool) (x : ND K) (A B : Tr K) : Tr K := (⟨!d, x.setmx (rV1 O d x A B), A⟩ : Fr K).fill B
def rTr (d : Bool) (x y : ND K) (A B D : Tr K) : Tr K := (⟨d, y.setmx (rV2 O d x y A B D), D⟩ : Fr K).fill (rTx O d x A B)
end


set_option maxHeartbeats 8000000 in
theorem itRotL (R : HP) (K : Type) (O : KO K) (tb sb : Nat) (cnt : Int) (sc : List Value) (x y : ND K) (A B D : Tr K) (C : List (Fr K)) (hC : COk O R C) (hT : TOk O R (Tr.nd x A (Tr.nd y B D))) :
    Tri Try.prog 171 #[(vQ tb), (vQ x.a)] R [cl tb 188 [(vQ (ra x.a C)), (vI .i64 cnt), (vQ sb)], tr sb (pa sb C) (Tr.nd x A (Tr.nd y B D)), cx sb x.a C, clf sb 185 sc] (fun v__ post__ => v__ = (vT #[]) ∧ post__ = [cl tb 188 [(vQ (ra y.a C)), (vI .i64 cnt), (vQ sb)], tr sb (pa sb C) (rTr O true x y A B D), cx sb y.a (rC3 O true x y A B D C), clf sb 185 sc]) := by
 refine Tri.into (n := 61) (al := [(vQ tb), (vQ x.a)]) func171 rfl ntmps171 rfl rfl fun w F H => ?_
 refine C_seq (fun _ hK1_ => ?_)
 refine C_seq (fun _ hK2_ => ?_)
 rcases B with _ | ⟨f3_n, f3_l, f3_r⟩
 ·skip
  have H4_ : Holds w (ro R :: cl tb 188 [(vQ (ra x.a C)), (vI .i64 cnt), (vQ sb)] :: tr sb (pa sb C) (Tr.nd x A (Tr.nd y (Tr.lf : Tr K) D)) :: cx sb x.a C :: clf sb 185 sc :: F) := (H)
  have H5_ := ((Holds.bring H4_ 2 rfl) :)
  have H6_ := Holds.tr_nd H5_
  have H7_ := ((Holds.bring H6_ 2 rfl) :)
  have H8_ := Holds.tr_nd H7_
  obtain ⟨hx_, hA_, hB_, hy_, hD_⟩ : NOk O R x ∧ TOk O R A ∧ TOk O R (Tr.lf : Tr K) ∧ NOk O R y ∧ TOk O R D := by obtain ⟨a1, a2, a3⟩ := hT; obtain ⟨b1, b2, b3⟩ := a3; exact ⟨a1, a2, b2, b1, b3⟩
  refine A_start (S := fun w => (Rd y.a [y.b, y.e, y.v, y.mx, (vQ sb), (vQ (rt sb D)), (vQ x.a), (vI .i64 y.c)] w ∧ Blk w y.a) ∧ RtRd w (rt sb (Tr.lf : Tr K)) (rmx (Tr.lf : Tr K)) ∧ RtRd w (rt sb D) (rmx D) ∧ (Rd x.a [x.b, x.e, x.v, x.mx, (vQ (rt sb A)), (vQ y.a), (vQ (pa sb C)), (vI .i64 x.c)] w ∧ Blk w x.a) ∧ RtRd w (rt sb A) (rmx A) ∧ Rd tb [(vQ (ra x.a C)), (vI .i64 cnt), (vQ sb)] w ∧ Sub R (hp w)) (N := 9) foll rfl rfl ?_
  have H9_ := Holds.drew_ H8_
  have hq10_ := And.intro ((And.intro (Holds.rdf H9_ 0 rfl) (Holds.blk H9_ 0 rfl))) (And.intro (Holds.tr_rd H9_ 1 rfl 8 rfl) (And.intro (Holds.tr_rd H9_ 2 rfl 8 rfl) (And.intro ((And.intro (Holds.rdf H9_ 3 rfl) (Holds.blk H9_ 3 rfl))) (And.intro (Holds.tr_rd H9_ 4 rfl 8 rfl) (And.intro (Holds.rd H9_ 6 rfl) ((Holds.ro_at H9_ 5 rfl)))))))
  refine A_tk 0 (v := (vQ x.a)) rfl (by kernel_rfl) (fun w hS => x_move rfl) hq10_ ?_
  refine A_tk 1 (v := (vQ x.a)) rfl (by kernel_rfl) (fun w hS => by kernel_rfl) hq10_ ?_
  refine A_tk 2 (v := (vP (some ⟨x.a, 5, none⟩))) rfl (by kernel_rfl) (fun w hS => by kernel_rfl) hq10_ ?_
  refine A_tk 3 (v := (vQ y.a)) rfl (by kernel_rfl) (fun w hS => x_load1 rfl underlying182 rfl (hS.2.2.2.1.1 5 (vQ y.a) rfl)) hq10_ ?_
  refine A_tk 4 (v := (vQ tb)) rfl (by kernel_rfl) (fun w hS => x_move rfl) hq10_ ?_
  refine A_tk 5 (v := (vQ tb)) rfl (by kernel_rfl) (fun w hS => by kernel_rfl) hq10_ ?_
  refine A_tk 6 (v := (vP (some ⟨tb, 2, none⟩))) rfl (by kernel_rfl) (fun w hS => by kernel_rfl) hq10_ ?_
  refine A_tk 7 (v := (vQ sb)) rfl (by kernel_rfl) (fun w hS => x_load1 rfl underlying182 rfl (hS.2.2.2.2.2.1 2 (vQ sb) rfl)) hq10_ ?_
  have hpc11_ : y.a ≠ sb := Holds.ne_f H9_ 0 rfl 8 rfl (by decide)
  refine A_ready (i := 8) (rs := []) (by kernel_rfl) ?_
  refine AllR.cons ?_ AllR.nil
  refine A_op (ls' := #[true, true, true, true, true, true, true, true, true]) rfl (by kernel_rfl) (T_val (v := (vB false)) (x_cast (x_eqPN rfl rfl underlying182 z185 (by decide) (Holds.blk H9_ 0 rfl) (Holds.blk H9_ 8 rfl)) (congrArg vB (decide_eq_false hpc11_))) ?_)
  refine ⟨⟨(And.intro (Holds.rdf H9_ 0 rfl) (Holds.blk H9_ 0 rfl)), Holds.tr_rd H9_ 1 rfl 8 rfl, Holds.tr_rd H9_ 2 rfl 8 rfl, (And.intro (Holds.rdf H9_ 3 rfl) (Holds.blk H9_ 3 rfl)), Holds.tr_rd H9_ 4 rfl 8 rfl, Holds.rd H9_ 6 rfl, (Holds.ro_at H9_ 5 rfl)⟩, ?_⟩
  refine A_done (by kernel_rfl) ?_
  refine (X_then (hK2_ _ _ ?_))
  refine C_condF rfl ?_
  refine C_skip (X_then (hK1_ _ _ ?_))
  refine cr fun _ hK12_ => ?_
  refine sm (vQ x.a) ?_
  refine sv (v := (vQ x.a)) (by kernel_rfl) ?_
  refine sv (v := (vP (some ⟨x.a, 5, none⟩))) (by kernel_rfl) ?_
  refine sv (v := (vQ y.a)) (x_load1 rfl underlying182 rfl ((Holds.rdf H9_ 3 rfl) 5 (vQ y.a) rfl)) ?_
  refine sv (v := (vQ y.a)) (x_assign rfl) ?_
  refine wn (hK12_ _ _ ?_)
  refine cr fun _ hK13_ => ?_
  refine sm (vQ x.a) ?_
  refine sm (vQ y.a) ?_
  refine sv (v := (vQ y.a)) (by kernel_rfl) ?_
  refine sv (v := (vP (some ⟨y.a, 4, none⟩))) (by kernel_rfl) ?_
  refine sv (v := (vQ sb)) (x_load1 rfl underlying182 rfl ((Holds.rdf H9_ 0 rfl) 4 (vQ sb) rfl)) ?_
  refine sv (v := (vQ x.a)) (by kernel_rfl) ?_
  refine sv (v := (vP (some ⟨x.a, 5, none⟩))) (by kernel_rfl) ?_
  refine S_list0 (T_store1f (v := (vQ sb)) rfl rfl z182 rfl H9_ 3 rfl (Nat.le_of_ble_eq_true (by rfl)) ?_)
  intro w14_ S16_ H15_
  have S17_ := Same.trans (Same.trans (Same.refl w) (Same.drew _)) S16_
  refine wn (hK13_ _ _ ?_)
  refine C_seq (fun _ hK18_ => ?_)
  refine C_seq (fun _ hK19_ => ?_)
  refine A_start (S := fun w => (Rd y.a [y.b, y.e, y.v, y.mx, (vQ sb), (vQ (rt sb D)), (vQ x.a), (vI .i64 y.c)] w ∧ Blk w y.a) ∧ RtRd w (rt sb (Tr.lf : Tr K)) (rmx (Tr.lf : Tr K)) ∧ RtRd w (rt sb D) (rmx D) ∧ (Rd x.a [x.b, x.e, x.v, x.mx, (vQ (rt sb A)), (vQ sb), (vQ (pa sb C)), (vI .i64 x.c)] w ∧ Blk w x.a) ∧ RtRd w (rt sb A) (rmx A) ∧ Rd tb [(vQ (ra x.a C)), (vI .i64 cnt), (vQ sb)] w ∧ Sub R (hp w)) (N := 9) foll rfl rfl ?_
  have H20_ := Holds.drew_ H15_
  have hq21_ := And.intro ((And.intro (Holds.rdf H20_ 0 rfl) (Holds.blk H20_ 0 rfl))) (And.intro (Holds.tr_rd H20_ 1 rfl 8 rfl) (And.intro (Holds.tr_rd H20_ 2 rfl 8 rfl) (And.intro ((And.intro (Holds.rdf H20_ 3 rfl) (Holds.blk H20_ 3 rfl))) (And.intro (Holds.tr_rd H20_ 4 rfl 8 rfl) (And.intro (Holds.rd H20_ 6 rfl) ((Holds.ro_at H20_ 5 rfl)))))))
  refine A_tk 0 (v := (vQ y.a)) rfl (by kernel_rfl) (fun w hS => x_move rfl) hq21_ ?_
  refine A_tk 1 (v := (vQ y.a)) rfl (by kernel_rfl) (fun w hS => by kernel_rfl) hq21_ ?_
  refine A_tk 2 (v := (vP (some ⟨y.a, 4, none⟩))) rfl (by kernel_rfl) (fun w hS => by kernel_rfl) hq21_ ?_
  refine A_tk 3 (v := (vQ sb)) rfl (by kernel_rfl) (fun w hS => x_load1 rfl underlying182 rfl (hS.1.1 4 (vQ sb) rfl)) hq21_ ?_
  refine A_tk 4 (v := (vQ tb)) rfl (by kernel_rfl) (fun w hS => x_move rfl) hq21_ ?_
  refine A_tk 5 (v := (vQ tb)) rfl (by kernel_rfl) (fun w hS => by kernel_rfl) hq21_ ?_
  refine A_tk 6 (v := (vP (some ⟨tb, 2, none⟩))) rfl (by kernel_rfl) (fun w hS => by kernel_rfl) hq21_ ?_
  refine A_tk 7 (v := (vQ sb)) rfl (by kernel_rfl) (fun w hS => x_load1 rfl underlying182 rfl (hS.2.2.2.2.2.1 2 (vQ sb) rfl)) hq21_ ?_
  refine A_tk 8 (v := (vB false)) rfl (by kernel_rfl) (fun w hS => x_neP rfl rfl underlying182 z185) hq21_ ?_
  refine A_done (by kernel_rfl) ?_
  refine (X_then (hK19_ _ _ ?_))
  refine C_condF rfl ?_
  refine C_skip (X_then (hK18_ _ _ ?_))
  refine cr fun _ hK22_ => ?_
  refine sm (vQ x.a) ?_
  refine sm (vQ tb) ?_
  refine sv (v := (vQ tb)) (by kernel_rfl) ?_
  refine sv (v := (vP (some ⟨tb, 2, none⟩))) (by kernel_rfl) ?_
  refine sv (v := (vQ sb)) (x_load1 rfl underlying182 rfl ((Holds.rd H20_ 6 rfl) 2 (vQ sb) rfl)) ?_
  have H23_ := ((Holds.bring (Holds.bring (Holds.bring H20_ 7 rfl) 5 rfl) 5 rfl) :)
  have H24_ := Holds.cons_cx (f := (⟨false, x, A⟩ : Fr K)) (x := sb) H23_
  have H25_ : Holds w14_.drew (hol (none : Option (ND K × Nat × Nat × Nat)) :: cx sb sb ((⟨false, x, A⟩ : Fr K) :: C) :: clf y.a 185 [y.b, y.e, y.v, y.mx, (vQ sb), (vQ (rt sb D)), (vQ x.a), (vI .i64 y.c)] :: tr sb y.a (Tr.lf : Tr K) :: tr sb y.a D :: ro R :: cl tb 188 [(vQ (ra x.a C)), (vI .i64 cnt), (vQ sb)] :: clf sb 185 sc :: F) := Holds.hol_none H24_
  have H26_ := H25_
  have H28_ := ((Holds.bring (Holds.bring (Holds.bring (Holds.bring H26_ 7 rfl) 2 rfl) 2 rfl) 6 rfl) :)
  refine S_list (T_call (al := [(vP (some ⟨(pa sb ((⟨false, x, A⟩ : Fr K) :: C)), 0, none⟩)), (vQ sb)]) (pre := [hol (none : Option (ND K × Nat × Nat × Nat)), cx sb (ha sb (none : Option (ND K × Nat × Nat × Nat))) ((⟨false, x, A⟩ : Fr K) :: C), clf sb 185 sc]) rfl (lcons ((by first | rfl | omega | (simp; done) | (simp; omega)) : (vQ x.a) = (vP (some ⟨(pa sb ((⟨false, x, A⟩ : Fr K) :: C)), 0, none⟩))) rfl) cb142 (itUpMax R K O sb sc (none : Option (ND K × Nat × Nat × Nat)) ((⟨false, x, A⟩ : Fr K) :: C) (COk.cons hx_ hA_ hC) (fun z hz => by cases hz)) H28_ ?_)
  rintro v27_ p32_ w29_ ⟨rfl, rfl⟩ S31_ H30_
  have S33_ := Same.trans (Same.trans S17_ (Same.drew _)) S31_
  have H34_ : Holds w29_ (ro R :: hol (none : Option (ND K × Nat × Nat × Nat)) :: cx sb sb (upC O (rmx (Tr.lf : Tr K)) ((⟨false, x, A⟩ : Fr K) :: C)) :: clf sb 185 sc :: clf y.a 185 [y.b, y.e, y.v, y.mx, (vQ sb), (vQ (rt sb D)), (vQ x.a), (vI .i64 y.c)] :: tr sb y.a (Tr.lf : Tr K) :: tr sb y.a D :: cl tb 188 [(vQ (ra x.a C)), (vI .i64 cnt), (vQ sb)] :: F) := (H30_)
  have H35_ := H34_
  rw [upC_cons] at H35_
  have hraC1 := fun z => ra_upT (O := O) (rmx (Tr.lf : Tr K)) (⟨false, x, A⟩ : Fr K) C z
  have hpaC1 := pa_upT (O := O) sb C (rmx (Tr.lf : Tr K)) (⟨false, x, A⟩ : Fr K)
  have hvv1 := VOk.u (O := O) (R := R) (h := (rmx (Tr.lf : Tr K))) (f := (⟨false, x, A⟩ : Fr K)) (TOk.mx hB_) hx_ hA_
  have hCO1 := COk.upT (O := O) (R := R) (h := (rmx (Tr.lf : Tr K))) (f := (⟨false, x, A⟩ : Fr K)) (C := C) hC (TOk.mx hB_) hx_ hA_
  obtain ⟨v1, hv1e⟩ : ∃ z, z = upV O (rmx (Tr.lf : Tr K)) (⟨false, x, A⟩ : Fr K) := ⟨_, rfl⟩
  obtain ⟨C1, hC1e⟩ : ∃ z, z = upT O (rmx (Tr.lf : Tr K)) (⟨false, x, A⟩ : Fr K) C := ⟨_, rfl⟩
  rw [← hv1e, ← hC1e] at H35_; rw [← hv1e] at hvv1; rw [← hC1e] at hCO1 hraC1 hpaC1
  have H36_ := H35_
  have H37_ := ((Holds.bring H36_ 2 rfl) :)
  have H38_ := Holds.cx_cons H37_
  have H39_ := H38_
  have H40_ := Holds.pkF H39_ [0, 0, 0, 0, 1, 1, 1, 1, 1] 1
  have H41_ := H40_; rw [show ra x.a C = ra x.a C1 from (hraC1 _).symm] at H41_
  have H42_ := H41_
  refine wn (hK22_ _ _ ?_)
  refine cr fun _ hK43_ => ?_
  refine sm (vQ tb) ?_
  refine sm (vQ x.a) ?_
  refine sm (vQ y.a) ?_
  have H44_ := H42_
  have H46_ := ((Holds.bring (Holds.bring (Holds.bring (Holds.bring (Holds.bring (Holds.bring H44_ 4 rfl) 3 rfl) 5 rfl) 3 rfl) 8 rfl) 6 rfl) :)
  refine S_list (T_call (al := [(vQ tb), (vQ ((x.setmx v1).a)), (vQ y.a)]) (pre := [cl tb 188 [(vQ (ra (x.setmx v1).a C1)), (vI .i64 cnt), (vQ sb)], clf ((x.setmx v1).a) 185 [((x.setmx v1).b), ((x.setmx v1).e), ((x.setmx v1).v), ((x.setmx v1).mx), (vQ (rt sb A)), (vQ sb), (vQ (pa sb C1)), (vI .i64 ((x.setmx v1).c))], clf y.a 185 [y.b, y.e, y.v, y.mx, (vQ sb), (vQ (rt sb D)), (vQ x.a), (vI .i64 y.c)], cx sb ((x.setmx v1).a) C1, clf sb 185 sc]) rfl (lcons rfl (lcons ((by first | rfl | omega | (simp; done) | (simp; omega)) : (vQ x.a) = (vQ ((x.setmx v1).a))) rfl)) cb175 (itRepl R K O tb sb cnt sc (x.setmx v1) y (rt sb A) sb sb (rt sb D) x.a C1 (hCO1) (hy_)) H46_ ?_)
  rintro v45_ p50_ w47_ ⟨rfl, rfl⟩ S49_ H48_
  have S51_ := Same.trans S33_ S49_
  have H52_ : Holds w47_ (ro R :: cl tb 188 [(vQ (ra y.a C1)), (vI .i64 cnt), (vQ sb)] :: clf x.a 185 [x.b, x.e, x.v, v1.1, (vQ (rt sb A)), (vQ sb), (vQ y.a), (vI .i64 x.c)] :: clf y.a 185 [y.b, y.e, y.v, y.mx, (vQ sb), (vQ (rt sb D)), (vQ (pa sb C1)), (vI .i64 y.c)] :: cx sb y.a (upC O (some (y.mx, y.km)) C1) :: clf sb 185 sc :: tr sb x.a A :: tr sb y.a (Tr.lf : Tr K) :: tr sb y.a D :: F) := (H48_)
  have hraC2 := fun z => ra_upC O C1 z (some (y.mx, y.km))
  have hpaC2 := pa_upC (O := O) sb C1 (some (y.mx, y.km))
  have hCO2 := COk.up (O := O) (R := R) (h := some (y.mx, y.km)) hCO1 (fun z hz => by cases hz; exact hy_.m)
  obtain ⟨C2, hC2e⟩ : ∃ z, z = upC O (some (y.mx, y.km)) C1 := ⟨_, rfl⟩
  have H53_ := H52_; rw [← hC2e] at H53_; rw [← hC2e] at hraC2 hpaC2 hCO2; rw [← hpaC2] at H53_; rw [← hraC2] at H53_
  have H54_ := H53_
  refine wn (hK43_ _ _ ?_)
  refine cr fun _ hK55_ => ?_
  refine sm (vQ y.a) ?_
  refine sm (vQ x.a) ?_
  refine sv (v := (vQ y.a)) (by kernel_rfl) ?_
  refine sv (v := (vP (some ⟨y.a, 4, none⟩))) (by kernel_rfl) ?_
  refine S_list0 (T_store1f (v := (vQ x.a)) rfl rfl z182 rfl H54_ 3 rfl (Nat.le_of_ble_eq_true (by rfl)) ?_)
  intro w56_ S58_ H57_
  have S59_ := Same.trans S51_ S58_
  refine wn (hK55_ _ _ ?_)
  refine C_reg ?_
  refine sm (vQ y.a) ?_
  refine sm (vQ tb) ?_
  refine sv (v := (vQ tb)) (by kernel_rfl) ?_
  refine sv (v := (vP (some ⟨tb, 2, none⟩))) (by kernel_rfl) ?_
  refine sv (v := (vQ sb)) (x_load1 rfl underlying182 rfl ((Holds.rd H57_ 1 rfl) 2 (vQ sb) rfl)) ?_
  have H60_ := ((Holds.bring (Holds.bring (Holds.bring H57_ 4 rfl) 8 rfl) 5 rfl) :)
  have H61_ := Holds.cons_cx (f := (⟨true, y, D⟩ : Fr K)) (x := x.a) H60_
  have H62_ := H61_
  have H64_ := ((Holds.bring (Holds.bring (Holds.bring (Holds.bring H62_ 4 rfl) 1 rfl) 4 rfl) 3 rfl) :)
  refine S_list (T_call (al := [(vP (some ⟨(pa sb ((⟨true, y, D⟩ : Fr K) :: C2)), 0, none⟩)), (vQ sb)]) (pre := [hol (some (x.setmx v1, (rt sb A), sb, y.a)), cx sb (ha sb (some (x.setmx v1, (rt sb A), sb, y.a))) ((⟨true, y, D⟩ : Fr K) :: C2), clf sb 185 sc]) rfl (lcons ((by first | rfl | omega | (simp; done) | (simp; omega)) : (vQ y.a) = (vP (some ⟨(pa sb ((⟨true, y, D⟩ : Fr K) :: C2)), 0, none⟩))) rfl) cb142 (itUpMax R K O sb sc (some (x.setmx v1, (rt sb A), sb, y.a)) ((⟨true, y, D⟩ : Fr K) :: C2) (COk.cons hy_ hD_ hCO2) (fun z hz => by cases hz; exact hvv1)) H64_ ?_)
  rintro v63_ p68_ w65_ ⟨rfl, rfl⟩ S67_ H66_
  have S69_ := Same.trans S59_ S67_
  have H70_ : Holds w65_ (ro R :: hol (some (x.setmx v1, (rt sb A), sb, y.a)) :: cx sb x.a (upC O (some v1) ((⟨true, y, D⟩ : Fr K) :: C2)) :: clf sb 185 sc :: cl tb 188 [(vQ (ra y.a C2)), (vI .i64 cnt), (vQ sb)] :: tr sb x.a A :: tr sb y.a (Tr.lf : Tr K) :: F) := (H66_)
  have H71_ := H70_
  rw [upC_cons] at H71_
  have hraC3 := fun z => ra_upT (O := O) (some v1) (⟨true, y, D⟩ : Fr K) C2 z
  have hpaC3 := pa_upT (O := O) sb C2 (some v1) (⟨true, y, D⟩ : Fr K)
  have hvv2 := VOk.u (O := O) (R := R) (h := (some v1)) (f := (⟨true, y, D⟩ : Fr K)) (VOk.so_ hvv1) hy_ hD_
  have hCO3 := COk.upT (O := O) (R := R) (h := (some v1)) (f := (⟨true, y, D⟩ : Fr K)) (C := C2) hCO2 (VOk.so_ hvv1) hy_ hD_
  obtain ⟨v2, hv2e⟩ : ∃ z, z = upV O (some v1) (⟨true, y, D⟩ : Fr K) := ⟨_, rfl⟩
  obtain ⟨C3, hC3e⟩ : ∃ z, z = upT O (some v1) (⟨true, y, D⟩ : Fr K) C2 := ⟨_, rfl⟩
  rw [← hv2e, ← hC3e] at H71_; rw [← hv2e] at hvv2; rw [← hC3e] at hCO3 hraC3 hpaC3
  have H72_ := H71_
  have H73_ := ((Holds.bring H72_ 2 rfl) :)
  have H74_ := Holds.cx_cons H73_
  have H75_ := H74_
  refine wpList_nil ?_
  refine R_0 rfl ?_
  have H76_ : Holds w65_ (tr sb x.a (Tr.lf : Tr K) :: clf y.a 185 [y.b, y.e, y.v, v2.1, (vQ x.a), (vQ (rt sb D)), (vQ (pa sb C3)), (vI .i64 y.c)] :: tr sb y.a D :: cx sb y.a C3 :: ro R :: clf x.a 185 [x.b, x.e, x.v, v1.1, (vQ (rt sb A)), (vQ sb), (vQ y.a), (vI .i64 x.c)] :: clf sb 185 sc :: cl tb 188 [(vQ (ra y.a C2)), (vI .i64 cnt), (vQ sb)] :: tr sb x.a A :: tr sb y.a (Tr.lf : Tr K) :: F) := Holds.lf_tr H75_
  have H77_ := ((Holds.bring (Holds.bring H76_ 8 rfl) 6 rfl) :)
  have H78_ := Holds.nd_tr (n := x.setmx v1) (a := A) (b := (Tr.lf : Tr K)) H77_
  have H79_ := ((Holds.bring (Holds.bring (Holds.bring H78_ 2 rfl) 1 rfl) 2 rfl) :)
  have H80_ := Holds.nd_tr (n := y.setmx v2) (a := (Tr.nd (x.setmx v1) A (Tr.lf : Tr K))) (b := D) H79_
  have H81_ := H80_; rw [hpaC3, hpaC2, hpaC1, hraC2, hraC1] at H81_; subst hC3e; subst hv2e; subst hC2e; subst hC1e; subst hv1e
  have H82_ := H81_
  have H83_ := Holds.pkF H82_ [2, 3, 0, 0, 0] 1
  exact ⟨_, _, rfl, ⟨rfl, rfl⟩, S69_, H83_⟩
 ·skip
  have H84_ : Holds w (ro R :: cl tb 188 [(vQ (ra x.a C)), (vI .i64 cnt), (vQ sb)] :: tr sb (pa sb C) (Tr.nd x A (Tr.nd y (Tr.nd f3_n f3_l f3_r) D)) :: cx sb x.a C :: clf sb 185 sc :: F) := (H)
  have H85_ := ((Holds.bring H84_ 2 rfl) :)
  have H86_ := Holds.tr_nd H85_
  have H87_ := ((Holds.bring H86_ 2 rfl) :)
  have H88_ := Holds.tr_nd H87_
  have H89_ := ((Holds.bring H88_ 1 rfl) :)
  have H90_ := Holds.tr_nd H89_
  obtain ⟨hx_, hA_, hB_, hy_, hD_⟩ : NOk O R x ∧ TOk O R A ∧ TOk O R (Tr.nd f3_n f3_l f3_r) ∧ NOk O R y ∧ TOk O R D := by obtain ⟨a1, a2, a3⟩ := hT; obtain ⟨b1, b2, b3⟩ := a3; exact ⟨a1, a2, b2, b1, b3⟩
  refine A_start (S := fun w => (Rd f3_n.a [f3_n.b, f3_n.e, f3_n.v, f3_n.mx, (vQ (rt sb f3_l)), (vQ (rt sb f3_r)), (vQ y.a), (vI .i64 f3_n.c)] w ∧ Blk w f3_n.a) ∧ RtRd w (rt sb f3_l) (rmx f3_l) ∧ RtRd w (rt sb f3_r) (rmx f3_r) ∧ (Rd y.a [y.b, y.e, y.v, y.mx, (vQ f3_n.a), (vQ (rt sb D)), (vQ x.a), (vI .i64 y.c)] w ∧ Blk w y.a) ∧ RtRd w (rt sb D) (rmx D) ∧ (Rd x.a [x.b, x.e, x.v, x.mx, (vQ (rt sb A)), (vQ y.a), (vQ (pa sb C)), (vI .i64 x.c)] w ∧ Blk w x.a) ∧ RtRd w (rt sb A) (rmx A) ∧ Rd tb [(vQ (ra x.a C)), (vI .i64 cnt), (vQ sb)] w ∧ Sub R (hp w)) (N := 9) foll rfl rfl ?_
  have H91_ := Holds.drew_ H90_
  have hq92_ := And.intro ((And.intro (Holds.rdf H91_ 0 rfl) (Holds.blk H91_ 0 rfl))) (And.intro (Holds.tr_rd H91_ 1 rfl 10 rfl) (And.intro (Holds.tr_rd H91_ 2 rfl 10 rfl) (And.intro ((And.intro (Holds.rdf H91_ 3 rfl) (Holds.blk H91_ 3 rfl))) (And.intro (Holds.tr_rd H91_ 4 rfl 10 rfl) (And.intro ((And.intro (Holds.rdf H91_ 5 rfl) (Holds.blk H91_ 5 rfl))) (And.intro (Holds.tr_rd H91_ 6 rfl 10 rfl) (And.intro (Holds.rd H91_ 8 rfl) ((Holds.ro_at H91_ 7 rfl)))))))))
  refine A_tk 0 (v := (vQ x.a)) rfl (by kernel_rfl) (fun w hS => x_move rfl) hq92_ ?_
  refine A_tk 1 (v := (vQ x.a)) rfl (by kernel_rfl) (fun w hS => by kernel_rfl) hq92_ ?_
  refine A_tk 2 (v := (vP (some ⟨x.a, 5, none⟩))) rfl (by kernel_rfl) (fun w hS => by kernel_rfl) hq92_ ?_
  refine A_tk 3 (v := (vQ y.a)) rfl (by kernel_rfl) (fun w hS => x_load1 rfl underlying182 rfl (hS.2.2.2.2.2.1.1 5 (vQ y.a) rfl)) hq92_ ?_
  refine A_tk 4 (v := (vQ tb)) rfl (by kernel_rfl) (fun w hS => x_move rfl) hq92_ ?_
  refine A_tk 5 (v := (vQ tb)) rfl (by kernel_rfl) (fun w hS => by kernel_rfl) hq92_ ?_
  refine A_tk 6 (v := (vP (some ⟨tb, 2, none⟩))) rfl (by kernel_rfl) (fun w hS => by kernel_rfl) hq92_ ?_
  refine A_tk 7 (v := (vQ sb)) rfl (by kernel_rfl) (fun w hS => x_load1 rfl underlying182 rfl (hS.2.2.2.2.2.2.2.1 2 (vQ sb) rfl)) hq92_ ?_
  have hpc93_ : y.a ≠ sb := Holds.ne_f H91_ 3 rfl 10 rfl (by decide)
  refine A_ready (i := 8) (rs := []) (by kernel_rfl) ?_
  refine AllR.cons ?_ AllR.nil
  refine A_op (ls' := #[true, true, true, true, true, true, true, true, true]) rfl (by kernel_rfl) (T_val (v := (vB false)) (x_cast (x_eqPN rfl rfl underlying182 z185 (by decide) (Holds.blk H91_ 3 rfl) (Holds.blk H91_ 10 rfl)) (congrArg vB (decide_eq_false hpc93_))) ?_)
  refine ⟨⟨(And.intro (Holds.rdf H91_ 0 rfl) (Holds.blk H91_ 0 rfl)), Holds.tr_rd H91_ 1 rfl 10 rfl, Holds.tr_rd H91_ 2 rfl 10 rfl, (And.intro (Holds.rdf H91_ 3 rfl) (Holds.blk H91_ 3 rfl)), Holds.tr_rd H91_ 4 rfl 10 rfl, (And.intro (Holds.rdf H91_ 5 rfl) (Holds.blk H91_ 5 rfl)), Holds.tr_rd H91_ 6 rfl 10 rfl, Holds.rd H91_ 8 rfl, (Holds.ro_at H91_ 7 rfl)⟩, ?_⟩
  refine A_done (by kernel_rfl) ?_
  refine (X_then (hK2_ _ _ ?_))
  refine C_condF rfl ?_
  refine C_skip (X_then (hK1_ _ _ ?_))
  refine cr fun _ hK94_ => ?_
  refine sm (vQ x.a) ?_
  refine sv (v := (vQ x.a)) (by kernel_rfl) ?_
  refine sv (v := (vP (some ⟨x.a, 5, none⟩))) (by kernel_rfl) ?_
  refine sv (v := (vQ y.a)) (x_load1 rfl underlying182 rfl ((Holds.rdf H91_ 5 rfl) 5 (vQ y.a) rfl)) ?_
  refine sv (v := (vQ y.a)) (x_assign rfl) ?_
  refine wn (hK94_ _ _ ?_)
  refine cr fun _ hK95_ => ?_
  refine sm (vQ x.a) ?_
  refine sm (vQ y.a) ?_
  refine sv (v := (vQ y.a)) (by kernel_rfl) ?_
  refine sv (v := (vP (some ⟨y.a, 4, none⟩))) (by kernel_rfl) ?_
  refine sv (v := (vQ f3_n.a)) (x_load1 rfl underlying182 rfl ((Holds.rdf H91_ 3 rfl) 4 (vQ f3_n.a) rfl)) ?_
  refine sv (v := (vQ x.a)) (by kernel_rfl) ?_
  refine sv (v := (vP (some ⟨x.a, 5, none⟩))) (by kernel_rfl) ?_
  refine S_list0 (T_store1f (v := (vQ f3_n.a)) rfl rfl z182 rfl H91_ 5 rfl (Nat.le_of_ble_eq_true (by rfl)) ?_)
  intro w96_ S98_ H97_
  have S99_ := Same.trans (Same.trans (Same.refl w) (Same.drew _)) S98_
  refine wn (hK95_ _ _ ?_)
  refine C_seq (fun _ hK100_ => ?_)
  refine C_seq (fun _ hK101_ => ?_)
  refine A_start (S := fun w => (Rd f3_n.a [f3_n.b, f3_n.e, f3_n.v, f3_n.mx, (vQ (rt sb f3_l)), (vQ (rt sb f3_r)), (vQ y.a), (vI .i64 f3_n.c)] w ∧ Blk w f3_n.a) ∧ RtRd w (rt sb f3_l) (rmx f3_l) ∧ RtRd w (rt sb f3_r) (rmx f3_r) ∧ (Rd y.a [y.b, y.e, y.v, y.mx, (vQ f3_n.a), (vQ (rt sb D)), (vQ x.a), (vI .i64 y.c)] w ∧ Blk w y.a) ∧ RtRd w (rt sb D) (rmx D) ∧ (Rd x.a [x.b, x.e, x.v, x.mx, (vQ (rt sb A)), (vQ f3_n.a), (vQ (pa sb C)), (vI .i64 x.c)] w ∧ Blk w x.a) ∧ RtRd w (rt sb A) (rmx A) ∧ Rd tb [(vQ (ra x.a C)), (vI .i64 cnt), (vQ sb)] w ∧ Sub R (hp w)) (N := 9) foll rfl rfl ?_
  have H102_ := Holds.drew_ H97_
  have hq103_ := And.intro ((And.intro (Holds.rdf H102_ 0 rfl) (Holds.blk H102_ 0 rfl))) (And.intro (Holds.tr_rd H102_ 1 rfl 10 rfl) (And.intro (Holds.tr_rd H102_ 2 rfl 10 rfl) (And.intro ((And.intro (Holds.rdf H102_ 3 rfl) (Holds.blk H102_ 3 rfl))) (And.intro (Holds.tr_rd H102_ 4 rfl 10 rfl) (And.intro ((And.intro (Holds.rdf H102_ 5 rfl) (Holds.blk H102_ 5 rfl))) (And.intro (Holds.tr_rd H102_ 6 rfl 10 rfl) (And.intro (Holds.rd H102_ 8 rfl) ((Holds.ro_at H102_ 7 rfl)))))))))
  refine A_tk 0 (v := (vQ y.a)) rfl (by kernel_rfl) (fun w hS => x_move rfl) hq103_ ?_
  refine A_tk 1 (v := (vQ y.a)) rfl (by kernel_rfl) (fun w hS => by kernel_rfl) hq103_ ?_
  refine A_tk 2 (v := (vP (some ⟨y.a, 4, none⟩))) rfl (by kernel_rfl) (fun w hS => by kernel_rfl) hq103_ ?_
  refine A_tk 3 (v := (vQ f3_n.a)) rfl (by kernel_rfl) (fun w hS => x_load1 rfl underlying182 rfl (hS.2.2.2.1.1 4 (vQ f3_n.a) rfl)) hq103_ ?_
  refine A_tk 4 (v := (vQ tb)) rfl (by kernel_rfl) (fun w hS => x_move rfl) hq103_ ?_
  refine A_tk 5 (v := (vQ tb)) rfl (by kernel_rfl) (fun w hS => by kernel_rfl) hq103_ ?_
  refine A_tk 6 (v := (vP (some ⟨tb, 2, none⟩))) rfl (by kernel_rfl) (fun w hS => by kernel_rfl) hq103_ ?_
  refine A_tk 7 (v := (vQ sb)) rfl (by kernel_rfl) (fun w hS => x_load1 rfl underlying182 rfl (hS.2.2.2.2.2.2.2.1 2 (vQ sb) rfl)) hq103_ ?_
  have hpc104_ : f3_n.a ≠ sb := Holds.ne_f H102_ 0 rfl 10 rfl (by decide)
  refine A_ready (i := 8) (rs := []) (by kernel_rfl) ?_
  refine AllR.cons ?_ AllR.nil
  refine A_op (ls' := #[true, true, true, true, true, true, true, true, true]) rfl (by kernel_rfl) (T_val (v := (vB true)) (x_cast (x_nePN rfl rfl underlying182 z185 (by decide) (Holds.blk H102_ 0 rfl) (Holds.blk H102_ 10 rfl)) (congrArg vB (decide_eq_true hpc104_))) ?_)
  refine ⟨⟨(And.intro (Holds.rdf H102_ 0 rfl) (Holds.blk H102_ 0 rfl)), Holds.tr_rd H102_ 1 rfl 10 rfl, Holds.tr_rd H102_ 2 rfl 10 rfl, (And.intro (Holds.rdf H102_ 3 rfl) (Holds.blk H102_ 3 rfl)), Holds.tr_rd H102_ 4 rfl 10 rfl, (And.intro (Holds.rdf H102_ 5 rfl) (Holds.blk H102_ 5 rfl)), Holds.tr_rd H102_ 6 rfl 10 rfl, Holds.rd H102_ 8 rfl, (Holds.ro_at H102_ 7 rfl)⟩, ?_⟩
  refine A_done (by kernel_rfl) ?_
  refine (X_then (hK101_ _ _ ?_))
  refine C_condT rfl ?_
  refine C_reg ?_
  refine sm (vQ y.a) ?_
  refine sv (v := (vQ y.a)) (by kernel_rfl) ?_
  refine sv (v := (vP (some ⟨y.a, 4, none⟩))) (by kernel_rfl) ?_
  refine sv (v := (vQ f3_n.a)) (x_load1 rfl underlying182 rfl ((Holds.rdf H102_ 3 rfl) 4 (vQ f3_n.a) rfl)) ?_
  refine sm (vQ x.a) ?_
  refine sv (v := (vQ f3_n.a)) (by kernel_rfl) ?_
  refine sv (v := (vP (some ⟨f3_n.a, 6, none⟩))) (by kernel_rfl) ?_
  refine S_list0 (T_store1f (v := (vQ x.a)) rfl rfl z182 rfl H102_ 0 rfl (Nat.le_of_ble_eq_true (by rfl)) ?_)
  intro w105_ S107_ H106_
  have S108_ := Same.trans (Same.trans S99_ (Same.drew _)) S107_
  refine wn (hK100_ _ _ ?_)
  refine cr fun _ hK109_ => ?_
  refine sm (vQ x.a) ?_
  refine sm (vQ tb) ?_
  refine sv (v := (vQ tb)) (by kernel_rfl) ?_
  refine sv (v := (vP (some ⟨tb, 2, none⟩))) (by kernel_rfl) ?_
  refine sv (v := (vQ sb)) (x_load1 rfl underlying182 rfl ((Holds.rd H106_ 8 rfl) 2 (vQ sb) rfl)) ?_
  have H110_ := ((Holds.bring (Holds.bring (Holds.bring H106_ 9 rfl) 7 rfl) 7 rfl) :)
  have H111_ := Holds.cons_cx (f := (⟨false, x, A⟩ : Fr K)) (x := f3_n.a) H110_
  have H112_ := H111_
  have H113_ := H112_
  have H115_ := ((Holds.bring (Holds.bring (Holds.bring (Holds.bring H113_ 8 rfl) 1 rfl) 2 rfl) 7 rfl) :)
  refine S_list (T_call (al := [(vP (some ⟨(pa sb ((⟨false, x, A⟩ : Fr K) :: C)), 0, none⟩)), (vQ sb)]) (pre := [hol (some (f3_n, (rt sb f3_l), (rt sb f3_r), x.a)), cx sb (ha sb (some (f3_n, (rt sb f3_l), (rt sb f3_r), x.a))) ((⟨false, x, A⟩ : Fr K) :: C), clf sb 185 sc]) rfl (lcons ((by first | rfl | omega | (simp; done) | (simp; omega)) : (vQ x.a) = (vP (some ⟨(pa sb ((⟨false, x, A⟩ : Fr K) :: C)), 0, none⟩))) rfl) cb142 (itUpMax R K O sb sc (some (f3_n, (rt sb f3_l), (rt sb f3_r), x.a)) ((⟨false, x, A⟩ : Fr K) :: C) (COk.cons hx_ hA_ hC) (TOk.mx hB_)) H115_ ?_)
  rintro v114_ p119_ w116_ ⟨rfl, rfl⟩ S118_ H117_
  have S120_ := Same.trans S108_ S118_
  have H121_ : Holds w116_ (ro R :: hol (some (f3_n, (rt sb f3_l), (rt sb f3_r), x.a)) :: cx sb f3_n.a (upC O (rmx (Tr.nd f3_n f3_l f3_r)) ((⟨false, x, A⟩ : Fr K) :: C)) :: clf sb 185 sc :: tr sb f3_n.a f3_l :: tr sb f3_n.a f3_r :: clf y.a 185 [y.b, y.e, y.v, y.mx, (vQ f3_n.a), (vQ (rt sb D)), (vQ x.a), (vI .i64 y.c)] :: tr sb y.a D :: cl tb 188 [(vQ (ra x.a C)), (vI .i64 cnt), (vQ sb)] :: F) := (H117_)
  have H122_ := H121_
  rw [upC_cons] at H122_
  have hraC1 := fun z => ra_upT (O := O) (rmx (Tr.nd f3_n f3_l f3_r)) (⟨false, x, A⟩ : Fr K) C z
  have hpaC1 := pa_upT (O := O) sb C (rmx (Tr.nd f3_n f3_l f3_r)) (⟨false, x, A⟩ : Fr K)
  have hvv1 := VOk.u (O := O) (R := R) (h := (rmx (Tr.nd f3_n f3_l f3_r))) (f := (⟨false, x, A⟩ : Fr K)) (TOk.mx hB_) hx_ hA_
  have hCO1 := COk.upT (O := O) (R := R) (h := (rmx (Tr.nd f3_n f3_l f3_r))) (f := (⟨false, x, A⟩ : Fr K)) (C := C) hC (TOk.mx hB_) hx_ hA_
  obtain ⟨v1, hv1e⟩ : ∃ z, z = upV O (rmx (Tr.nd f3_n f3_l f3_r)) (⟨false, x, A⟩ : Fr K) := ⟨_, rfl⟩
  obtain ⟨C1, hC1e⟩ : ∃ z, z = upT O (rmx (Tr.nd f3_n f3_l f3_r)) (⟨false, x, A⟩ : Fr K) C := ⟨_, rfl⟩
  rw [← hv1e, ← hC1e] at H122_; rw [← hv1e] at hvv1; rw [← hC1e] at hCO1 hraC1 hpaC1
  have H123_ := H122_
  have H124_ := ((Holds.bring H123_ 2 rfl) :)
  have H125_ := Holds.cx_cons H124_
  have H126_ : Holds w116_ (clf x.a 185 [x.b, x.e, x.v, v1.1, (vQ (rt sb A)), (vQ f3_n.a), (vQ (pa sb C1)), (vI .i64 x.c)] :: tr sb x.a A :: cx sb x.a C1 :: ro R :: clf f3_n.a 185 [f3_n.b, f3_n.e, f3_n.v, f3_n.mx, (vQ (rt sb f3_l)), (vQ (rt sb f3_r)), (vQ x.a), (vI .i64 f3_n.c)] :: clf sb 185 sc :: tr sb f3_n.a f3_l :: tr sb f3_n.a f3_r :: clf y.a 185 [y.b, y.e, y.v, y.mx, (vQ f3_n.a), (vQ (rt sb D)), (vQ x.a), (vI .i64 y.c)] :: tr sb y.a D :: cl tb 188 [(vQ (ra x.a C)), (vI .i64 cnt), (vQ sb)] :: F) := (H125_)
  have H127_ := H126_; rw [show ra x.a C = ra x.a C1 from (hraC1 _).symm] at H127_
  have H128_ := H127_
  refine wn (hK109_ _ _ ?_)
  refine cr fun _ hK129_ => ?_
  refine sm (vQ tb) ?_
  refine sm (vQ x.a) ?_
  refine sm (vQ y.a) ?_
  have H130_ := H128_
  have H132_ := ((Holds.bring (Holds.bring (Holds.bring (Holds.bring (Holds.bring (Holds.bring H130_ 5 rfl) 3 rfl) 8 rfl) 3 rfl) 10 rfl) 6 rfl) :)
  refine S_list (T_call (al := [(vQ tb), (vQ ((x.setmx v1).a)), (vQ y.a)]) (pre := [cl tb 188 [(vQ (ra (x.setmx v1).a C1)), (vI .i64 cnt), (vQ sb)], clf ((x.setmx v1).a) 185 [((x.setmx v1).b), ((x.setmx v1).e), ((x.setmx v1).v), ((x.setmx v1).mx), (vQ (rt sb A)), (vQ f3_n.a), (vQ (pa sb C1)), (vI .i64 ((x.setmx v1).c))], clf y.a 185 [y.b, y.e, y.v, y.mx, (vQ f3_n.a), (vQ (rt sb D)), (vQ x.a), (vI .i64 y.c)], cx sb ((x.setmx v1).a) C1, clf sb 185 sc]) rfl (lcons rfl (lcons ((by first | rfl | omega | (simp; done) | (simp; omega)) : (vQ x.a) = (vQ ((x.setmx v1).a))) rfl)) cb175 (itRepl R K O tb sb cnt sc (x.setmx v1) y (rt sb A) f3_n.a f3_n.a (rt sb D) x.a C1 (hCO1) (hy_)) H132_ ?_)
  rintro v131_ p136_ w133_ ⟨rfl, rfl⟩ S135_ H134_
  have S137_ := Same.trans S120_ S135_
  have H138_ : Holds w133_ (ro R :: cl tb 188 [(vQ (ra y.a C1)), (vI .i64 cnt), (vQ sb)] :: clf x.a 185 [x.b, x.e, x.v, v1.1, (vQ (rt sb A)), (vQ f3_n.a), (vQ y.a), (vI .i64 x.c)] :: clf y.a 185 [y.b, y.e, y.v, y.mx, (vQ f3_n.a), (vQ (rt sb D)), (vQ (pa sb C1)), (vI .i64 y.c)] :: cx sb y.a (upC O (some (y.mx, y.km)) C1) :: clf sb 185 sc :: tr sb x.a A :: clf f3_n.a 185 [f3_n.b, f3_n.e, f3_n.v, f3_n.mx, (vQ (rt sb f3_l)), (vQ (rt sb f3_r)), (vQ x.a), (vI .i64 f3_n.c)] :: tr sb f3_n.a f3_l :: tr sb f3_n.a f3_r :: tr sb y.a D :: F) := (H134_)
  have hraC2 := fun z => ra_upC O C1 z (some (y.mx, y.km))
  have hpaC2 := pa_upC (O := O) sb C1 (some (y.mx, y.km))
  have hCO2 := COk.up (O := O) (R := R) (h := some (y.mx, y.km)) hCO1 (fun z hz => by cases hz; exact hy_.m)
  obtain ⟨C2, hC2e⟩ : ∃ z, z = upC O (some (y.mx, y.km)) C1 := ⟨_, rfl⟩
  have H139_ := H138_; rw [← hC2e] at H139_; rw [← hC2e] at hraC2 hpaC2 hCO2; rw [← hpaC2] at H139_; rw [← hraC2] at H139_
  have H140_ := H139_
  refine wn (hK129_ _ _ ?_)
  refine cr fun _ hK141_ => ?_
  refine sm (vQ y.a) ?_
  refine sm (vQ x.a) ?_
  refine sv (v := (vQ y.a)) (by kernel_rfl) ?_
  refine sv (v := (vP (some ⟨y.a, 4, none⟩))) (by kernel_rfl) ?_
  refine S_list0 (T_store1f (v := (vQ x.a)) rfl rfl z182 rfl H140_ 3 rfl (Nat.le_of_ble_eq_true (by rfl)) ?_)
  intro w142_ S144_ H143_
  have S145_ := Same.trans S137_ S144_
  refine wn (hK141_ _ _ ?_)
  refine C_reg ?_
  refine sm (vQ y.a) ?_
  refine sm (vQ tb) ?_
  refine sv (v := (vQ tb)) (by kernel_rfl) ?_
  refine sv (v := (vP (some ⟨tb, 2, none⟩))) (by kernel_rfl) ?_
  refine sv (v := (vQ sb)) (x_load1 rfl underlying182 rfl ((Holds.rd H143_ 1 rfl) 2 (vQ sb) rfl)) ?_
  have H146_ := ((Holds.bring (Holds.bring (Holds.bring H143_ 4 rfl) 10 rfl) 5 rfl) :)
  have H147_ := Holds.cons_cx (f := (⟨true, y, D⟩ : Fr K)) (x := x.a) H146_
  have H148_ := H147_
  have H150_ := ((Holds.bring (Holds.bring (Holds.bring (Holds.bring H148_ 4 rfl) 1 rfl) 4 rfl) 3 rfl) :)
  refine S_list (T_call (al := [(vP (some ⟨(pa sb ((⟨true, y, D⟩ : Fr K) :: C2)), 0, none⟩)), (vQ sb)]) (pre := [hol (some (x.setmx v1, (rt sb A), f3_n.a, y.a)), cx sb (ha sb (some (x.setmx v1, (rt sb A), f3_n.a, y.a))) ((⟨true, y, D⟩ : Fr K) :: C2), clf sb 185 sc]) rfl (lcons ((by first | rfl | omega | (simp; done) | (simp; omega)) : (vQ y.a) = (vP (some ⟨(pa sb ((⟨true, y, D⟩ : Fr K) :: C2)), 0, none⟩))) rfl) cb142 (itUpMax R K O sb sc (some (x.setmx v1, (rt sb A), f3_n.a, y.a)) ((⟨true, y, D⟩ : Fr K) :: C2) (COk.cons hy_ hD_ hCO2) (fun z hz => by cases hz; exact hvv1)) H150_ ?_)
  rintro v149_ p154_ w151_ ⟨rfl, rfl⟩ S153_ H152_
  have S155_ := Same.trans S145_ S153_
  have H156_ : Holds w151_ (ro R :: hol (some (x.setmx v1, (rt sb A), f3_n.a, y.a)) :: cx sb x.a (upC O (some v1) ((⟨true, y, D⟩ : Fr K) :: C2)) :: clf sb 185 sc :: cl tb 188 [(vQ (ra y.a C2)), (vI .i64 cnt), (vQ sb)] :: tr sb x.a A :: clf f3_n.a 185 [f3_n.b, f3_n.e, f3_n.v, f3_n.mx, (vQ (rt sb f3_l)), (vQ (rt sb f3_r)), (vQ x.a), (vI .i64 f3_n.c)] :: tr sb f3_n.a f3_l :: tr sb f3_n.a f3_r :: F) := (H152_)
  have H157_ := H156_
  rw [upC_cons] at H157_
  have hraC3 := fun z => ra_upT (O := O) (some v1) (⟨true, y, D⟩ : Fr K) C2 z
  have hpaC3 := pa_upT (O := O) sb C2 (some v1) (⟨true, y, D⟩ : Fr K)
  have hvv2 := VOk.u (O := O) (R := R) (h := (some v1)) (f := (⟨true, y, D⟩ : Fr K)) (VOk.so_ hvv1) hy_ hD_
  have hCO3 := COk.upT (O := O) (R := R) (h := (some v1)) (f := (⟨true, y, D⟩ : Fr K)) (C := C2) hCO2 (VOk.so_ hvv1) hy_ hD_
  obtain ⟨v2, hv2e⟩ : ∃ z, z = upV O (some v1) (⟨true, y, D⟩ : Fr K) := ⟨_, rfl⟩
  obtain ⟨C3, hC3e⟩ : ∃ z, z = upT O (some v1) (⟨true, y, D⟩ : Fr K) C2 := ⟨_, rfl⟩
  rw [← hv2e, ← hC3e] at H157_; rw [← hv2e] at hvv2; rw [← hC3e] at hCO3 hraC3 hpaC3
  have H158_ := H157_
  have H159_ := ((Holds.bring H158_ 2 rfl) :)
  have H160_ := Holds.cx_cons H159_
  have H161_ := H160_
  refine wpList_nil ?_
  refine R_0 rfl ?_
  have H162_ := ((Holds.bring (Holds.bring (Holds.bring H161_ 10 rfl) 10 rfl) 10 rfl) :)
  have H163_ := Holds.nd_tr (n := f3_n) H162_
  have H164_ := ((Holds.bring (Holds.bring H163_ 8 rfl) 6 rfl) :)
  have H165_ := Holds.nd_tr (n := x.setmx v1) (a := A) (b := (Tr.nd f3_n f3_l f3_r)) H164_
  have H166_ := ((Holds.bring (Holds.bring (Holds.bring H165_ 2 rfl) 1 rfl) 2 rfl) :)
  have H167_ := Holds.nd_tr (n := y.setmx v2) (a := (Tr.nd (x.setmx v1) A (Tr.nd f3_n f3_l f3_r))) (b := D) H166_
  have H168_ := H167_; rw [hpaC3, hpaC2, hpaC1, hraC2, hraC1] at H168_; subst hC3e; subst hv2e; subst hC2e; subst hC1e; subst hv1e
  have H169_ := H168_
  have H170_ := Holds.pkF H169_ [2, 3, 0, 0, 0] 0
  exact ⟨_, _, rfl, ⟨rfl, rfl⟩, S155_, H170_⟩

set_option maxHeartbeats 8000000 in
theorem itRotR (R : HP) (K : Type) (O : KO K) (tb sb : Nat) (cnt : Int) (sc : List Value) (x y : ND K) (A B D : Tr K) (C : List (Fr K)) (hC : COk O R C) (hT : TOk O R (Tr.nd x (Tr.nd y D B) A)) :
    Tri Try.prog 172 #[(vQ tb), (vQ x.a)] R [cl tb 188 [(vQ (ra x.a C)), (vI .i64 cnt), (vQ sb)], tr sb (pa sb C) (Tr.nd x (Tr.nd y D B) A), cx sb x.a C, clf sb 185 sc] (fun v__ post__ => v__ = (vT #[]) ∧ post__ = [cl tb 188 [(vQ (ra y.a C)), (vI .i64 cnt), (vQ sb)], tr sb (pa sb C) (rTr O false x y A B D), cx sb y.a (rC3 O false x y A B D C), clf sb 185 sc]) := by
 refine Tri.into (n := 61) (al := [(vQ tb), (vQ x.a)]) func172 rfl ntmps172 rfl rfl fun w F H => ?_
 refine C_seq (fun _ hK1_ => ?_)
 refine C_seq (fun _ hK2_ => ?_)
 rcases B with _ | ⟨f3_n, f3_l, f3_r⟩
 ·skip
  have H4_ : Holds w (ro R :: cl tb 188 [(vQ (ra x.a C)), (vI .i64 cnt), (vQ sb)] :: tr sb (pa sb C) (Tr.nd x (Tr.nd y D (Tr.lf : Tr K)) A) :: cx sb x.a C :: clf sb 185 sc :: F) := (H)
  have H5_ := ((Holds.bring H4_ 2 rfl) :)
  have H6_ := Holds.tr_nd H5_
  have H7_ := ((Holds.bring H6_ 1 rfl) :)
  have H8_ := Holds.tr_nd H7_
  obtain ⟨hx_, hA_, hB_, hy_, hD_⟩ : NOk O R x ∧ TOk O R A ∧ TOk O R (Tr.lf : Tr K) ∧ NOk O R y ∧ TOk O R D := by obtain ⟨a1, a2, a3⟩ := hT; obtain ⟨b1, b2, b3⟩ := a2; exact ⟨a1, a3, b3, b1, b2⟩
  refine A_start (S := fun w => (Rd y.a [y.b, y.e, y.v, y.mx, (vQ (rt sb D)), (vQ sb), (vQ x.a), (vI .i64 y.c)] w ∧ Blk w y.a) ∧ RtRd w (rt sb D) (rmx D) ∧ RtRd w (rt sb (Tr.lf : Tr K)) (rmx (Tr.lf : Tr K)) ∧ (Rd x.a [x.b, x.e, x.v, x.mx, (vQ y.a), (vQ (rt sb A)), (vQ (pa sb C)), (vI .i64 x.c)] w ∧ Blk w x.a) ∧ RtRd w (rt sb A) (rmx A) ∧ Rd tb [(vQ (ra x.a C)), (vI .i64 cnt), (vQ sb)] w ∧ Sub R (hp w)) (N := 9) foll rfl rfl ?_
  have H9_ := Holds.drew_ H8_
  have hq10_ := And.intro ((And.intro (Holds.rdf H9_ 0 rfl) (Holds.blk H9_ 0 rfl))) (And.intro (Holds.tr_rd H9_ 1 rfl 8 rfl) (And.intro (Holds.tr_rd H9_ 2 rfl 8 rfl) (And.intro ((And.intro (Holds.rdf H9_ 3 rfl) (Holds.blk H9_ 3 rfl))) (And.intro (Holds.tr_rd H9_ 4 rfl 8 rfl) (And.intro (Holds.rd H9_ 6 rfl) ((Holds.ro_at H9_ 5 rfl)))))))
  refine A_tk 0 (v := (vQ x.a)) rfl (by kernel_rfl) (fun w hS => x_move rfl) hq10_ ?_
  refine A_tk 1 (v := (vQ x.a)) rfl (by kernel_rfl) (fun w hS => by kernel_rfl) hq10_ ?_
  refine A_tk 2 (v := (vP (some ⟨x.a, 4, none⟩))) rfl (by kernel_rfl) (fun w hS => by kernel_rfl) hq10_ ?_
  refine A_tk 3 (v := (vQ y.a)) rfl (by kernel_rfl) (fun w hS => x_load1 rfl underlying182 rfl (hS.2.2.2.1.1 4 (vQ y.a) rfl)) hq10_ ?_
  refine A_tk 4 (v := (vQ tb)) rfl (by kernel_rfl) (fun w hS => x_move rfl) hq10_ ?_
  refine A_tk 5 (v := (vQ tb)) rfl (by kernel_rfl) (fun w hS => by kernel_rfl) hq10_ ?_
  refine A_tk 6 (v := (vP (some ⟨tb, 2, none⟩))) rfl (by kernel_rfl) (fun w hS => by kernel_rfl) hq10_ ?_
  refine A_tk 7 (v := (vQ sb)) rfl (by kernel_rfl) (fun w hS => x_load1 rfl underlying182 rfl (hS.2.2.2.2.2.1 2 (vQ sb) rfl)) hq10_ ?_
  have hpc11_ : y.a ≠ sb := Holds.ne_f H9_ 0 rfl 8 rfl (by decide)
  refine A_ready (i := 8) (rs := []) (by kernel_rfl) ?_
  refine AllR.cons ?_ AllR.nil
  refine A_op (ls' := #[true, true, true, true, true, true, true, true, true]) rfl (by kernel_rfl) (T_val (v := (vB false)) (x_cast (x_eqPN rfl rfl underlying182 z185 (by decide) (Holds.blk H9_ 0 rfl) (Holds.blk H9_ 8 rfl)) (congrArg vB (decide_eq_false hpc11_))) ?_)
  refine ⟨⟨(And.intro (Holds.rdf H9_ 0 rfl) (Holds.blk H9_ 0 rfl)), Holds.tr_rd H9_ 1 rfl 8 rfl, Holds.tr_rd H9_ 2 rfl 8 rfl, (And.intro (Holds.rdf H9_ 3 rfl) (Holds.blk H9_ 3 rfl)), Holds.tr_rd H9_ 4 rfl 8 rfl, Holds.rd H9_ 6 rfl, (Holds.ro_at H9_ 5 rfl)⟩, ?_⟩
  refine A_done (by kernel_rfl) ?_
  refine (X_then (hK2_ _ _ ?_))
  refine C_condF rfl ?_
  refine C_skip (X_then (hK1_ _ _ ?_))
  refine cr fun _ hK12_ => ?_
  refine sm (vQ x.a) ?_
  refine sv (v := (vQ x.a)) (by kernel_rfl) ?_
  refine sv (v := (vP (some ⟨x.a, 4, none⟩))) (by kernel_rfl) ?_
  refine sv (v := (vQ y.a)) (x_load1 rfl underlying182 rfl ((Holds.rdf H9_ 3 rfl) 4 (vQ y.a) rfl)) ?_
  refine sv (v := (vQ y.a)) (x_assign rfl) ?_
  refine wn (hK12_ _ _ ?_)
  refine cr fun _ hK13_ => ?_
  refine sm (vQ x.a) ?_
  refine sm (vQ y.a) ?_
  refine sv (v := (vQ y.a)) (by kernel_rfl) ?_
  refine sv (v := (vP (some ⟨y.a, 5, none⟩))) (by kernel_rfl) ?_
  refine sv (v := (vQ sb)) (x_load1 rfl underlying182 rfl ((Holds.rdf H9_ 0 rfl) 5 (vQ sb) rfl)) ?_
  refine sv (v := (vQ x.a)) (by kernel_rfl) ?_
  refine sv (v := (vP (some ⟨x.a, 4, none⟩))) (by kernel_rfl) ?_
  refine S_list0 (T_store1f (v := (vQ sb)) rfl rfl z182 rfl H9_ 3 rfl (Nat.le_of_ble_eq_true (by rfl)) ?_)
  intro w14_ S16_ H15_
  have S17_ := Same.trans (Same.trans (Same.refl w) (Same.drew _)) S16_
  refine wn (hK13_ _ _ ?_)
  refine C_seq (fun _ hK18_ => ?_)
  refine C_seq (fun _ hK19_ => ?_)
  refine A_start (S := fun w => (Rd y.a [y.b, y.e, y.v, y.mx, (vQ (rt sb D)), (vQ sb), (vQ x.a), (vI .i64 y.c)] w ∧ Blk w y.a) ∧ RtRd w (rt sb D) (rmx D) ∧ RtRd w (rt sb (Tr.lf : Tr K)) (rmx (Tr.lf : Tr K)) ∧ (Rd x.a [x.b, x.e, x.v, x.mx, (vQ sb), (vQ (rt sb A)), (vQ (pa sb C)), (vI .i64 x.c)] w ∧ Blk w x.a) ∧ RtRd w (rt sb A) (rmx A) ∧ Rd tb [(vQ (ra x.a C)), (vI .i64 cnt), (vQ sb)] w ∧ Sub R (hp w)) (N := 9) foll rfl rfl ?_
  have H20_ := Holds.drew_ H15_
  have hq21_ := And.intro ((And.intro (Holds.rdf H20_ 0 rfl) (Holds.blk H20_ 0 rfl))) (And.intro (Holds.tr_rd H20_ 1 rfl 8 rfl) (And.intro (Holds.tr_rd H20_ 2 rfl 8 rfl) (And.intro ((And.intro (Holds.rdf H20_ 3 rfl) (Holds.blk H20_ 3 rfl))) (And.intro (Holds.tr_rd H20_ 4 rfl 8 rfl) (And.intro (Holds.rd H20_ 6 rfl) ((Holds.ro_at H20_ 5 rfl)))))))
  refine A_tk 0 (v := (vQ y.a)) rfl (by kernel_rfl) (fun w hS => x_move rfl) hq21_ ?_
  refine A_tk 1 (v := (vQ y.a)) rfl (by kernel_rfl) (fun w hS => by kernel_rfl) hq21_ ?_
  refine A_tk 2 (v := (vP (some ⟨y.a, 5, none⟩))) rfl (by kernel_rfl) (fun w hS => by kernel_rfl) hq21_ ?_
  refine A_tk 3 (v := (vQ sb)) rfl (by kernel_rfl) (fun w hS => x_load1 rfl underlying182 rfl (hS.1.1 5 (vQ sb) rfl)) hq21_ ?_
  refine A_tk 4 (v := (vQ tb)) rfl (by kernel_rfl) (fun w hS => x_move rfl) hq21_ ?_
  refine A_tk 5 (v := (vQ tb)) rfl (by kernel_rfl) (fun w hS => by kernel_rfl) hq21_ ?_
  refine A_tk 6 (v := (vP (some ⟨tb, 2, none⟩))) rfl (by kernel_rfl) (fun w hS => by kernel_rfl) hq21_ ?_
  refine A_tk 7 (v := (vQ sb)) rfl (by kernel_rfl) (fun w hS => x_load1 rfl underlying182 rfl (hS.2.2.2.2.2.1 2 (vQ sb) rfl)) hq21_ ?_
  refine A_tk 8 (v := (vB false)) rfl (by kernel_rfl) (fun w hS => x_neP rfl rfl underlying182 z185) hq21_ ?_
  refine A_done (by kernel_rfl) ?_
  refine (X_then (hK19_ _ _ ?_))
  refine C_condF rfl ?_
  refine C_skip (X_then (hK18_ _ _ ?_))
  refine cr fun _ hK22_ => ?_
  refine sm (vQ x.a) ?_
  refine sm (vQ tb) ?_
  refine sv (v := (vQ tb)) (by kernel_rfl) ?_
  refine sv (v := (vP (some ⟨tb, 2, none⟩))) (by kernel_rfl) ?_
  refine sv (v := (vQ sb)) (x_load1 rfl underlying182 rfl ((Holds.rd H20_ 6 rfl) 2 (vQ sb) rfl)) ?_
  have H23_ := ((Holds.bring (Holds.bring (Holds.bring H20_ 7 rfl) 5 rfl) 5 rfl) :)
  have H24_ := Holds.cons_cx (f := (⟨true, x, A⟩ : Fr K)) (x := sb) H23_
  have H25_ : Holds w14_.drew (hol (none : Option (ND K × Nat × Nat × Nat)) :: cx sb sb ((⟨true, x, A⟩ : Fr K) :: C) :: clf y.a 185 [y.b, y.e, y.v, y.mx, (vQ (rt sb D)), (vQ sb), (vQ x.a), (vI .i64 y.c)] :: tr sb y.a D :: tr sb y.a (Tr.lf : Tr K) :: ro R :: cl tb 188 [(vQ (ra x.a C)), (vI .i64 cnt), (vQ sb)] :: clf sb 185 sc :: F) := Holds.hol_none H24_
  have H26_ := H25_
  have H28_ := ((Holds.bring (Holds.bring (Holds.bring (Holds.bring H26_ 7 rfl) 2 rfl) 2 rfl) 6 rfl) :)
  refine S_list (T_call (al := [(vP (some ⟨(pa sb ((⟨true, x, A⟩ : Fr K) :: C)), 0, none⟩)), (vQ sb)]) (pre := [hol (none : Option (ND K × Nat × Nat × Nat)), cx sb (ha sb (none : Option (ND K × Nat × Nat × Nat))) ((⟨true, x, A⟩ : Fr K) :: C), clf sb 185 sc]) rfl (lcons ((by first | rfl | omega | (simp; done) | (simp; omega)) : (vQ x.a) = (vP (some ⟨(pa sb ((⟨true, x, A⟩ : Fr K) :: C)), 0, none⟩))) rfl) cb142 (itUpMax R K O sb sc (none : Option (ND K × Nat × Nat × Nat)) ((⟨true, x, A⟩ : Fr K) :: C) (COk.cons hx_ hA_ hC) (fun z hz => by cases hz)) H28_ ?_)
  rintro v27_ p32_ w29_ ⟨rfl, rfl⟩ S31_ H30_
  have S33_ := Same.trans (Same.trans S17_ (Same.drew _)) S31_
  have H34_ : Holds w29_ (ro R :: hol (none : Option (ND K × Nat × Nat × Nat)) :: cx sb sb (upC O (rmx (Tr.lf : Tr K)) ((⟨true, x, A⟩ : Fr K) :: C)) :: clf sb 185 sc :: clf y.a 185 [y.b, y.e, y.v, y.mx, (vQ (rt sb D)), (vQ sb), (vQ x.a), (vI .i64 y.c)] :: tr sb y.a D :: tr sb y.a (Tr.lf : Tr K) :: cl tb 188 [(vQ (ra x.a C)), (vI .i64 cnt), (vQ sb)] :: F) := (H30_)
  have H35_ := H34_
  rw [upC_cons] at H35_
  have hraC1 := fun z => ra_upT (O := O) (rmx (Tr.lf : Tr K)) (⟨true, x, A⟩ : Fr K) C z
  have hpaC1 := pa_upT (O := O) sb C (rmx (Tr.lf : Tr K)) (⟨true, x, A⟩ : Fr K)
  have hvv1 := VOk.u (O := O) (R := R) (h := (rmx (Tr.lf : Tr K))) (f := (⟨true, x, A⟩ : Fr K)) (TOk.mx hB_) hx_ hA_
  have hCO1 := COk.upT (O := O) (R := R) (h := (rmx (Tr.lf : Tr K))) (f := (⟨true, x, A⟩ : Fr K)) (C := C) hC (TOk.mx hB_) hx_ hA_
  obtain ⟨v1, hv1e⟩ : ∃ z, z = upV O (rmx (Tr.lf : Tr K)) (⟨true, x, A⟩ : Fr K) := ⟨_, rfl⟩
  obtain ⟨C1, hC1e⟩ : ∃ z, z = upT O (rmx (Tr.lf : Tr K)) (⟨true, x, A⟩ : Fr K) C := ⟨_, rfl⟩
  rw [← hv1e, ← hC1e] at H35_; rw [← hv1e] at hvv1; rw [← hC1e] at hCO1 hraC1 hpaC1
  have H36_ := H35_
  have H37_ := ((Holds.bring H36_ 2 rfl) :)
  have H38_ := Holds.cx_cons H37_
  have H39_ := H38_
  have H40_ := Holds.pkF H39_ [0, 0, 0, 0, 1, 1, 1, 1, 1] 1
  have H41_ := H40_; rw [show ra x.a C = ra x.a C1 from (hraC1 _).symm] at H41_
  have H42_ := H41_
  refine wn (hK22_ _ _ ?_)
  refine cr fun _ hK43_ => ?_
  refine sm (vQ tb) ?_
  refine sm (vQ x.a) ?_
  refine sm (vQ y.a) ?_
  have H44_ := H42_
  have H46_ := ((Holds.bring (Holds.bring (Holds.bring (Holds.bring (Holds.bring (Holds.bring H44_ 4 rfl) 3 rfl) 5 rfl) 3 rfl) 8 rfl) 6 rfl) :)
  refine S_list (T_call (al := [(vQ tb), (vQ ((x.setmx v1).a)), (vQ y.a)]) (pre := [cl tb 188 [(vQ (ra (x.setmx v1).a C1)), (vI .i64 cnt), (vQ sb)], clf ((x.setmx v1).a) 185 [((x.setmx v1).b), ((x.setmx v1).e), ((x.setmx v1).v), ((x.setmx v1).mx), (vQ sb), (vQ (rt sb A)), (vQ (pa sb C1)), (vI .i64 ((x.setmx v1).c))], clf y.a 185 [y.b, y.e, y.v, y.mx, (vQ (rt sb D)), (vQ sb), (vQ x.a), (vI .i64 y.c)], cx sb ((x.setmx v1).a) C1, clf sb 185 sc]) rfl (lcons rfl (lcons ((by first | rfl | omega | (simp; done) | (simp; omega)) : (vQ x.a) = (vQ ((x.setmx v1).a))) rfl)) cb175 (itRepl R K O tb sb cnt sc (x.setmx v1) y sb (rt sb A) (rt sb D) sb x.a C1 (hCO1) (hy_)) H46_ ?_)
  rintro v45_ p50_ w47_ ⟨rfl, rfl⟩ S49_ H48_
  have S51_ := Same.trans S33_ S49_
  have H52_ : Holds w47_ (ro R :: cl tb 188 [(vQ (ra y.a C1)), (vI .i64 cnt), (vQ sb)] :: clf x.a 185 [x.b, x.e, x.v, v1.1, (vQ sb), (vQ (rt sb A)), (vQ y.a), (vI .i64 x.c)] :: clf y.a 185 [y.b, y.e, y.v, y.mx, (vQ (rt sb D)), (vQ sb), (vQ (pa sb C1)), (vI .i64 y.c)] :: cx sb y.a (upC O (some (y.mx, y.km)) C1) :: clf sb 185 sc :: tr sb x.a A :: tr sb y.a D :: tr sb y.a (Tr.lf : Tr K) :: F) := (H48_)
  have hraC2 := fun z => ra_upC O C1 z (some (y.mx, y.km))
  have hpaC2 := pa_upC (O := O) sb C1 (some (y.mx, y.km))
  have hCO2 := COk.up (O := O) (R := R) (h := some (y.mx, y.km)) hCO1 (fun z hz => by cases hz; exact hy_.m)
  obtain ⟨C2, hC2e⟩ : ∃ z, z = upC O (some (y.mx, y.km)) C1 := ⟨_, rfl⟩
  have H53_ := H52_; rw [← hC2e] at H53_; rw [← hC2e] at hraC2 hpaC2 hCO2; rw [← hpaC2] at H53_; rw [← hraC2] at H53_
  have H54_ := H53_
  refine wn (hK43_ _ _ ?_)
  refine cr fun _ hK55_ => ?_
  refine sm (vQ y.a) ?_
  refine sm (vQ x.a) ?_
  refine sv (v := (vQ y.a)) (by kernel_rfl) ?_
  refine sv (v := (vP (some ⟨y.a, 5, none⟩))) (by kernel_rfl) ?_
  refine S_list0 (T_store1f (v := (vQ x.a)) rfl rfl z182 rfl H54_ 3 rfl (Nat.le_of_ble_eq_true (by rfl)) ?_)
  intro w56_ S58_ H57_
  have S59_ := Same.trans S51_ S58_
  refine wn (hK55_ _ _ ?_)
  refine C_reg ?_
  refine sm (vQ y.a) ?_
  refine sm (vQ tb) ?_
  refine sv (v := (vQ tb)) (by kernel_rfl) ?_
  refine sv (v := (vP (some ⟨tb, 2, none⟩))) (by kernel_rfl) ?_
  refine sv (v := (vQ sb)) (x_load1 rfl underlying182 rfl ((Holds.rd H57_ 1 rfl) 2 (vQ sb) rfl)) ?_
  have H60_ := ((Holds.bring (Holds.bring (Holds.bring H57_ 4 rfl) 7 rfl) 5 rfl) :)
  have H61_ := Holds.cons_cx (f := (⟨false, y, D⟩ : Fr K)) (x := x.a) H60_
  have H62_ := H61_
  have H64_ := ((Holds.bring (Holds.bring (Holds.bring (Holds.bring H62_ 4 rfl) 1 rfl) 4 rfl) 3 rfl) :)
  refine S_list (T_call (al := [(vP (some ⟨(pa sb ((⟨false, y, D⟩ : Fr K) :: C2)), 0, none⟩)), (vQ sb)]) (pre := [hol (some (x.setmx v1, sb, (rt sb A), y.a)), cx sb (ha sb (some (x.setmx v1, sb, (rt sb A), y.a))) ((⟨false, y, D⟩ : Fr K) :: C2), clf sb 185 sc]) rfl (lcons ((by first | rfl | omega | (simp; done) | (simp; omega)) : (vQ y.a) = (vP (some ⟨(pa sb ((⟨false, y, D⟩ : Fr K) :: C2)), 0, none⟩))) rfl) cb142 (itUpMax R K O sb sc (some (x.setmx v1, sb, (rt sb A), y.a)) ((⟨false, y, D⟩ : Fr K) :: C2) (COk.cons hy_ hD_ hCO2) (fun z hz => by cases hz; exact hvv1)) H64_ ?_)
  rintro v63_ p68_ w65_ ⟨rfl, rfl⟩ S67_ H66_
  have S69_ := Same.trans S59_ S67_
  have H70_ : Holds w65_ (ro R :: hol (some (x.setmx v1, sb, (rt sb A), y.a)) :: cx sb x.a (upC O (some v1) ((⟨false, y, D⟩ : Fr K) :: C2)) :: clf sb 185 sc :: cl tb 188 [(vQ (ra y.a C2)), (vI .i64 cnt), (vQ sb)] :: tr sb x.a A :: tr sb y.a (Tr.lf : Tr K) :: F) := (H66_)
  have H71_ := H70_
  rw [upC_cons] at H71_
  have hraC3 := fun z => ra_upT (O := O) (some v1) (⟨false, y, D⟩ : Fr K) C2 z
  have hpaC3 := pa_upT (O := O) sb C2 (some v1) (⟨false, y, D⟩ : Fr K)
  have hvv2 := VOk.u (O := O) (R := R) (h := (some v1)) (f := (⟨false, y, D⟩ : Fr K)) (VOk.so_ hvv1) hy_ hD_
  have hCO3 := COk.upT (O := O) (R := R) (h := (some v1)) (f := (⟨false, y, D⟩ : Fr K)) (C := C2) hCO2 (VOk.so_ hvv1) hy_ hD_
  obtain ⟨v2, hv2e⟩ : ∃ z, z = upV O (some v1) (⟨false, y, D⟩ : Fr K) := ⟨_, rfl⟩
  obtain ⟨C3, hC3e⟩ : ∃ z, z = upT O (some v1) (⟨false, y, D⟩ : Fr K) C2 := ⟨_, rfl⟩
  rw [← hv2e, ← hC3e] at H71_; rw [← hv2e] at hvv2; rw [← hC3e] at hCO3 hraC3 hpaC3
  have H72_ := H71_
  have H73_ := ((Holds.bring H72_ 2 rfl) :)
  have H74_ := Holds.cx_cons H73_
  have H75_ := H74_
  refine wpList_nil ?_
  refine R_0 rfl ?_
  have H76_ : Holds w65_ (tr sb x.a (Tr.lf : Tr K) :: clf y.a 185 [y.b, y.e, y.v, v2.1, (vQ (rt sb D)), (vQ x.a), (vQ (pa sb C3)), (vI .i64 y.c)] :: tr sb y.a D :: cx sb y.a C3 :: ro R :: clf x.a 185 [x.b, x.e, x.v, v1.1, (vQ sb), (vQ (rt sb A)), (vQ y.a), (vI .i64 x.c)] :: clf sb 185 sc :: cl tb 188 [(vQ (ra y.a C2)), (vI .i64 cnt), (vQ sb)] :: tr sb x.a A :: tr sb y.a (Tr.lf : Tr K) :: F) := Holds.lf_tr H75_
  have H77_ := ((Holds.bring (Holds.bring (Holds.bring H76_ 8 rfl) 1 rfl) 6 rfl) :)
  have H78_ := Holds.nd_tr (n := x.setmx v1) (a := (Tr.lf : Tr K)) (b := A) H77_
  have H79_ := ((Holds.bring (Holds.bring H78_ 2 rfl) 2 rfl) :)
  have H80_ := Holds.nd_tr (n := y.setmx v2) (a := D) (b := (Tr.nd (x.setmx v1) (Tr.lf : Tr K) A)) H79_
  have H81_ := H80_; rw [hpaC3, hpaC2, hpaC1, hraC2, hraC1] at H81_; subst hC3e; subst hv2e; subst hC2e; subst hC1e; subst hv1e
  have H82_ := H81_
  have H83_ := Holds.pkF H82_ [2, 3, 0, 0, 0] 1
  exact ⟨_, _, rfl, ⟨rfl, rfl⟩, S69_, H83_⟩
 ·skip
  have H84_ : Holds w (ro R :: cl tb 188 [(vQ (ra x.a C)), (vI .i64 cnt), (vQ sb)] :: tr sb (pa sb C) (Tr.nd x (Tr.nd y D (Tr.nd f3_n f3_l f3_r)) A) :: cx sb x.a C :: clf sb 185 sc :: F) := (H)
  have H85_ := ((Holds.bring H84_ 2 rfl) :)
  have H86_ := Holds.tr_nd H85_
  have H87_ := ((Holds.bring H86_ 1 rfl) :)
  have H88_ := Holds.tr_nd H87_
  have H89_ := ((Holds.bring H88_ 2 rfl) :)
  have H90_ := Holds.tr_nd H89_
  obtain ⟨hx_, hA_, hB_, hy_, hD_⟩ : NOk O R x ∧ TOk O R A ∧ TOk O R (Tr.nd f3_n f3_l f3_r) ∧ NOk O R y ∧ TOk O R D := by obtain ⟨a1, a2, a3⟩ := hT; obtain ⟨b1, b2, b3⟩ := a2; exact ⟨a1, a3, b3, b1, b2⟩
  refine A_start (S := fun w => (Rd f3_n.a [f3_n.b, f3_n.e, f3_n.v, f3_n.mx, (vQ (rt sb f3_l)), (vQ (rt sb f3_r)), (vQ y.a), (vI .i64 f3_n.c)] w ∧ Blk w f3_n.a) ∧ RtRd w (rt sb f3_l) (rmx f3_l) ∧ RtRd w (rt sb f3_r) (rmx f3_r) ∧ (Rd y.a [y.b, y.e, y.v, y.mx, (vQ (rt sb D)), (vQ f3_n.a), (vQ x.a), (vI .i64 y.c)] w ∧ Blk w y.a) ∧ RtRd w (rt sb D) (rmx D) ∧ (Rd x.a [x.b, x.e, x.v, x.mx, (vQ y.a), (vQ (rt sb A)), (vQ (pa sb C)), (vI .i64 x.c)] w ∧ Blk w x.a) ∧ RtRd w (rt sb A) (rmx A) ∧ Rd tb [(vQ (ra x.a C)), (vI .i64 cnt), (vQ sb)] w ∧ Sub R (hp w)) (N := 9) foll rfl rfl ?_
  have H91_ := Holds.drew_ H90_
  have hq92_ := And.intro ((And.intro (Holds.rdf H91_ 0 rfl) (Holds.blk H91_ 0 rfl))) (And.intro (Holds.tr_rd H91_ 1 rfl 10 rfl) (And.intro (Holds.tr_rd H91_ 2 rfl 10 rfl) (And.intro ((And.intro (Holds.rdf H91_ 3 rfl) (Holds.blk H91_ 3 rfl))) (And.intro (Holds.tr_rd H91_ 4 rfl 10 rfl) (And.intro ((And.intro (Holds.rdf H91_ 5 rfl) (Holds.blk H91_ 5 rfl))) (And.intro (Holds.tr_rd H91_ 6 rfl 10 rfl) (And.intro (Holds.rd H91_ 8 rfl) ((Holds.ro_at H91_ 7 rfl)))))))))
  refine A_tk 0 (v := (vQ x.a)) rfl (by kernel_rfl) (fun w hS => x_move rfl) hq92_ ?_
  refine A_tk 1 (v := (vQ x.a)) rfl (by kernel_rfl) (fun w hS => by kernel_rfl) hq92_ ?_
  refine A_tk 2 (v := (vP (some ⟨x.a, 4, none⟩))) rfl (by kernel_rfl) (fun w hS => by kernel_rfl) hq92_ ?_
  refine A_tk 3 (v := (vQ y.a)) rfl (by kernel_rfl) (fun w hS => x_load1 rfl underlying182 rfl (hS.2.2.2.2.2.1.1 4 (vQ y.a) rfl)) hq92_ ?_
  refine A_tk 4 (v := (vQ tb)) rfl (by kernel_rfl) (fun w hS => x_move rfl) hq92_ ?_
  refine A_tk 5 (v := (vQ tb)) rfl (by kernel_rfl) (fun w hS => by kernel_rfl) hq92_ ?_
  refine A_tk 6 (v := (vP (some ⟨tb, 2, none⟩))) rfl (by kernel_rfl) (fun w hS => by kernel_rfl) hq92_ ?_
  refine A_tk 7 (v := (vQ sb)) rfl (by kernel_rfl) (fun w hS => x_load1 rfl underlying182 rfl (hS.2.2.2.2.2.2.2.1 2 (vQ sb) rfl)) hq92_ ?_
  have hpc93_ : y.a ≠ sb := Holds.ne_f H91_ 3 rfl 10 rfl (by decide)
  refine A_ready (i := 8) (rs := []) (by kernel_rfl) ?_
  refine AllR.cons ?_ AllR.nil
  refine A_op (ls' := #[true, true, true, true, true, true, true, true, true]) rfl (by kernel_rfl) (T_val (v := (vB false)) (x_cast (x_eqPN rfl rfl underlying182 z185 (by decide) (Holds.blk H91_ 3 rfl) (Holds.blk H91_ 10 rfl)) (congrArg vB (decide_eq_false hpc93_))) ?_)
  refine ⟨⟨(And.intro (Holds.rdf H91_ 0 rfl) (Holds.blk H91_ 0 rfl)), Holds.tr_rd H91_ 1 rfl 10 rfl, Holds.tr_rd H91_ 2 rfl 10 rfl, (And.intro (Holds.rdf H91_ 3 rfl) (Holds.blk H91_ 3 rfl)), Holds.tr_rd H91_ 4 rfl 10 rfl, (And.intro (Holds.rdf H91_ 5 rfl) (Holds.blk H91_ 5 rfl)), Holds.tr_rd H91_ 6 rfl 10 rfl, Holds.rd H91_ 8 rfl, (Holds.ro_at H91_ 7 rfl)⟩, ?_⟩
  refine A_done (by kernel_rfl) ?_
  refine (X_then (hK2_ _ _ ?_))
  refine C_condF rfl ?_
  refine C_skip (X_then (hK1_ _ _ ?_))
  refine cr fun _ hK94_ => ?_
  refine sm (vQ x.a) ?_
  refine sv (v := (vQ x.a)) (by kernel_rfl) ?_
  refine sv (v := (vP (some ⟨x.a, 4, none⟩))) (by kernel_rfl) ?_
  refine sv (v := (vQ y.a)) (x_load1 rfl underlying182 rfl ((Holds.rdf H91_ 5 rfl) 4 (vQ y.a) rfl)) ?_
  refine sv (v := (vQ y.a)) (x_assign rfl) ?_
  refine wn (hK94_ _ _ ?_)
  refine cr fun _ hK95_ => ?_
  refine sm (vQ x.a) ?_
  refine sm (vQ y.a) ?_
  refine sv (v := (vQ y.a)) (by kernel_rfl) ?_
  refine sv (v := (vP (some ⟨y.a, 5, none⟩))) (by kernel_rfl) ?_
  refine sv (v := (vQ f3_n.a)) (x_load1 rfl underlying182 rfl ((Holds.rdf H91_ 3 rfl) 5 (vQ f3_n.a) rfl)) ?_
  refine sv (v := (vQ x.a)) (by kernel_rfl) ?_
  refine sv (v := (vP (some ⟨x.a, 4, none⟩))) (by kernel_rfl) ?_
  refine S_list0 (T_store1f (v := (vQ f3_n.a)) rfl rfl z182 rfl H91_ 5 rfl (Nat.le_of_ble_eq_true (by rfl)) ?_)
  intro w96_ S98_ H97_
  have S99_ := Same.trans (Same.trans (Same.refl w) (Same.drew _)) S98_
  refine wn (hK95_ _ _ ?_)
  refine C_seq (fun _ hK100_ => ?_)
  refine C_seq (fun _ hK101_ => ?_)
  refine A_start (S := fun w => (Rd f3_n.a [f3_n.b, f3_n.e, f3_n.v, f3_n.mx, (vQ (rt sb f3_l)), (vQ (rt sb f3_r)), (vQ y.a), (vI .i64 f3_n.c)] w ∧ Blk w f3_n.a) ∧ RtRd w (rt sb f3_l) (rmx f3_l) ∧ RtRd w (rt sb f3_r) (rmx f3_r) ∧ (Rd y.a [y.b, y.e, y.v, y.mx, (vQ (rt sb D)), (vQ f3_n.a), (vQ x.a), (vI .i64 y.c)] w ∧ Blk w y.a) ∧ RtRd w (rt sb D) (rmx D) ∧ (Rd x.a [x.b, x.e, x.v, x.mx, (vQ f3_n.a), (vQ (rt sb A)), (vQ (pa sb C)), (vI .i64 x.c)] w ∧ Blk w x.a) ∧ RtRd w (rt sb A) (rmx A) ∧ Rd tb [(vQ (ra x.a C)), (vI .i64 cnt), (vQ sb)] w ∧ Sub R (hp w)) (N := 9) foll rfl rfl ?_
  have H102_ := Holds.drew_ H97_
  have hq103_ := And.intro ((And.intro (Holds.rdf H102_ 0 rfl) (Holds.blk H102_ 0 rfl))) (And.intro (Holds.tr_rd H102_ 1 rfl 10 rfl) (And.intro (Holds.tr_rd H102_ 2 rfl 10 rfl) (And.intro ((And.intro (Holds.rdf H102_ 3 rfl) (Holds.blk H102_ 3 rfl))) (And.intro (Holds.tr_rd H102_ 4 rfl 10 rfl) (And.intro ((And.intro (Holds.rdf H102_ 5 rfl) (Holds.blk H102_ 5 rfl))) (And.intro (Holds.tr_rd H102_ 6 rfl 10 rfl) (And.intro (Holds.rd H102_ 8 rfl) ((Holds.ro_at H102_ 7 rfl)))))))))
  refine A_tk 0 (v := (vQ y.a)) rfl (by kernel_rfl) (fun w hS => x_move rfl) hq103_ ?_
  refine A_tk 1 (v := (vQ y.a)) rfl (by kernel_rfl) (fun w hS => by kernel_rfl) hq103_ ?_
  refine A_tk 2 (v := (vP (some ⟨y.a, 5, none⟩))) rfl (by kernel_rfl) (fun w hS => by kernel_rfl) hq103_ ?_
  refine A_tk 3 (v := (vQ f3_n.a)) rfl (by kernel_rfl) (fun w hS => x_load1 rfl underlying182 rfl (hS.2.2.2.1.1 5 (vQ f3_n.a) rfl)) hq103_ ?_
  refine A_tk 4 (v := (vQ tb)) rfl (by kernel_rfl) (fun w hS => x_move rfl) hq103_ ?_
  refine A_tk 5 (v := (vQ tb)) rfl (by kernel_rfl) (fun w hS => by kernel_rfl) hq103_ ?_
  refine A_tk 6 (v := (vP (some ⟨tb, 2, none⟩))) rfl (by kernel_rfl) (fun w hS => by kernel_rfl) hq103_ ?_
  refine A_tk 7 (v := (vQ sb)) rfl (by kernel_rfl) (fun w hS => x_load1 rfl underlying182 rfl (hS.2.2.2.2.2.2.2.1 2 (vQ sb) rfl)) hq103_ ?_
  have hpc104_ : f3_n.a ≠ sb := Holds.ne_f H102_ 0 rfl 10 rfl (by decide)
  refine A_ready (i := 8) (rs := []) (by kernel_rfl) ?_
  refine AllR.cons ?_ AllR.nil
  refine A_op (ls' := #[true, true, true, true, true, true, true, true, true]) rfl (by kernel_rfl) (T_val (v := (vB true)) (x_cast (x_nePN rfl rfl underlying182 z185 (by decide) (Holds.blk H102_ 0 rfl) (Holds.blk H102_ 10 rfl)) (congrArg vB (decide_eq_true hpc104_))) ?_)
  refine ⟨⟨(And.intro (Holds.rdf H102_ 0 rfl) (Holds.blk H102_ 0 rfl)), Holds.tr_rd H102_ 1 rfl 10 rfl, Holds.tr_rd H102_ 2 rfl 10 rfl, (And.intro (Holds.rdf H102_ 3 rfl) (Holds.blk H102_ 3 rfl)), Holds.tr_rd H102_ 4 rfl 10 rfl, (And.intro (Holds.rdf H102_ 5 rfl) (Holds.blk H102_ 5 rfl)), Holds.tr_rd H102_ 6 rfl 10 rfl, Holds.rd H102_ 8 rfl, (Holds.ro_at H102_ 7 rfl)⟩, ?_⟩
  refine A_done (by kernel_rfl) ?_
  refine (X_then (hK101_ _ _ ?_))
  refine C_condT rfl ?_
  refine C_reg ?_
  refine sm (vQ y.a) ?_
  refine sv (v := (vQ y.a)) (by kernel_rfl) ?_
  refine sv (v := (vP (some ⟨y.a, 5, none⟩))) (by kernel_rfl) ?_
  refine sv (v := (vQ f3_n.a)) (x_load1 rfl underlying182 rfl ((Holds.rdf H102_ 3 rfl) 5 (vQ f3_n.a) rfl)) ?_
  refine sm (vQ x.a) ?_
  refine sv (v := (vQ f3_n.a)) (by kernel_rfl) ?_
  refine sv (v := (vP (some ⟨f3_n.a, 6, none⟩))) (by kernel_rfl) ?_
  refine S_list0 (T_store1f (v := (vQ x.a)) rfl rfl z182 rfl H102_ 0 rfl (Nat.le_of_ble_eq_true (by rfl)) ?_)
  intro w105_ S107_ H106_
  have S108_ := Same.trans (Same.trans S99_ (Same.drew _)) S107_
  refine wn (hK100_ _ _ ?_)
  refine cr fun _ hK109_ => ?_
  refine sm (vQ x.a) ?_
  refine sm (vQ tb) ?_
  refine sv (v := (vQ tb)) (by kernel_rfl) ?_
  refine sv (v := (vP (some ⟨tb, 2, none⟩))) (by kernel_rfl) ?_
  refine sv (v := (vQ sb)) (x_load1 rfl underlying182 rfl ((Holds.rd H106_ 8 rfl) 2 (vQ sb) rfl)) ?_
  have H110_ := ((Holds.bring (Holds.bring (Holds.bring H106_ 9 rfl) 7 rfl) 7 rfl) :)
  have H111_ := Holds.cons_cx (f := (⟨true, x, A⟩ : Fr K)) (x := f3_n.a) H110_
  have H112_ := H111_
  have H113_ := H112_
  have H115_ := ((Holds.bring (Holds.bring (Holds.bring (Holds.bring H113_ 8 rfl) 1 rfl) 2 rfl) 7 rfl) :)
  refine S_list (T_call (al := [(vP (some ⟨(pa sb ((⟨true, x, A⟩ : Fr K) :: C)), 0, none⟩)), (vQ sb)]) (pre := [hol (some (f3_n, (rt sb f3_l), (rt sb f3_r), x.a)), cx sb (ha sb (some (f3_n, (rt sb f3_l), (rt sb f3_r), x.a))) ((⟨true, x, A⟩ : Fr K) :: C), clf sb 185 sc]) rfl (lcons ((by first | rfl | omega | (simp; done) | (simp; omega)) : (vQ x.a) = (vP (some ⟨(pa sb ((⟨true, x, A⟩ : Fr K) :: C)), 0, none⟩))) rfl) cb142 (itUpMax R K O sb sc (some (f3_n, (rt sb f3_l), (rt sb f3_r), x.a)) ((⟨true, x, A⟩ : Fr K) :: C) (COk.cons hx_ hA_ hC) (TOk.mx hB_)) H115_ ?_)
  rintro v114_ p119_ w116_ ⟨rfl, rfl⟩ S118_ H117_
  have S120_ := Same.trans S108_ S118_
  have H121_ : Holds w116_ (ro R :: hol (some (f3_n, (rt sb f3_l), (rt sb f3_r), x.a)) :: cx sb f3_n.a (upC O (rmx (Tr.nd f3_n f3_l f3_r)) ((⟨true, x, A⟩ : Fr K) :: C)) :: clf sb 185 sc :: tr sb f3_n.a f3_l :: tr sb f3_n.a f3_r :: clf y.a 185 [y.b, y.e, y.v, y.mx, (vQ (rt sb D)), (vQ f3_n.a), (vQ x.a), (vI .i64 y.c)] :: tr sb y.a D :: cl tb 188 [(vQ (ra x.a C)), (vI .i64 cnt), (vQ sb)] :: F) := (H117_)
  have H122_ := H121_
  rw [upC_cons] at H122_
  have hraC1 := fun z => ra_upT (O := O) (rmx (Tr.nd f3_n f3_l f3_r)) (⟨true, x, A⟩ : Fr K) C z
  have hpaC1 := pa_upT (O := O) sb C (rmx (Tr.nd f3_n f3_l f3_r)) (⟨true, x, A⟩ : Fr K)
  have hvv1 := VOk.u (O := O) (R := R) (h := (rmx (Tr.nd f3_n f3_l f3_r))) (f := (⟨true, x, A⟩ : Fr K)) (TOk.mx hB_) hx_ hA_
  have hCO1 := COk.upT (O := O) (R := R) (h := (rmx (Tr.nd f3_n f3_l f3_r))) (f := (⟨true, x, A⟩ : Fr K)) (C := C) hC (TOk.mx hB_) hx_ hA_
  obtain ⟨v1, hv1e⟩ : ∃ z, z = upV O (rmx (Tr.nd f3_n f3_l f3_r)) (⟨true, x, A⟩ : Fr K) := ⟨_, rfl⟩
  obtain ⟨C1, hC1e⟩ : ∃ z, z = upT O (rmx (Tr.nd f3_n f3_l f3_r)) (⟨true, x, A⟩ : Fr K) C := ⟨_, rfl⟩
  rw [← hv1e, ← hC1e] at H122_; rw [← hv1e] at hvv1; rw [← hC1e] at hCO1 hraC1 hpaC1
  have H123_ := H122_
  have H124_ := ((Holds.bring H123_ 2 rfl) :)
  have H125_ := Holds.cx_cons H124_
  have H126_ : Holds w116_ (clf x.a 185 [x.b, x.e, x.v, v1.1, (vQ f3_n.a), (vQ (rt sb A)), (vQ (pa sb C1)), (vI .i64 x.c)] :: tr sb x.a A :: cx sb x.a C1 :: ro R :: clf f3_n.a 185 [f3_n.b, f3_n.e, f3_n.v, f3_n.mx, (vQ (rt sb f3_l)), (vQ (rt sb f3_r)), (vQ x.a), (vI .i64 f3_n.c)] :: clf sb 185 sc :: tr sb f3_n.a f3_l :: tr sb f3_n.a f3_r :: clf y.a 185 [y.b, y.e, y.v, y.mx, (vQ (rt sb D)), (vQ f3_n.a), (vQ x.a), (vI .i64 y.c)] :: tr sb y.a D :: cl tb 188 [(vQ (ra x.a C)), (vI .i64 cnt), (vQ sb)] :: F) := (H125_)
  have H127_ := H126_; rw [show ra x.a C = ra x.a C1 from (hraC1 _).symm] at H127_
  have H128_ := H127_
  refine wn (hK109_ _ _ ?_)
  refine cr fun _ hK129_ => ?_
  refine sm (vQ tb) ?_
  refine sm (vQ x.a) ?_
  refine sm (vQ y.a) ?_
  have H130_ := H128_
  have H132_ := ((Holds.bring (Holds.bring (Holds.bring (Holds.bring (Holds.bring (Holds.bring H130_ 5 rfl) 3 rfl) 8 rfl) 3 rfl) 10 rfl) 6 rfl) :)
  refine S_list (T_call (al := [(vQ tb), (vQ ((x.setmx v1).a)), (vQ y.a)]) (pre := [cl tb 188 [(vQ (ra (x.setmx v1).a C1)), (vI .i64 cnt), (vQ sb)], clf ((x.setmx v1).a) 185 [((x.setmx v1).b), ((x.setmx v1).e), ((x.setmx v1).v), ((x.setmx v1).mx), (vQ f3_n.a), (vQ (rt sb A)), (vQ (pa sb C1)), (vI .i64 ((x.setmx v1).c))], clf y.a 185 [y.b, y.e, y.v, y.mx, (vQ (rt sb D)), (vQ f3_n.a), (vQ x.a), (vI .i64 y.c)], cx sb ((x.setmx v1).a) C1, clf sb 185 sc]) rfl (lcons rfl (lcons ((by first | rfl | omega | (simp; done) | (simp; omega)) : (vQ x.a) = (vQ ((x.setmx v1).a))) rfl)) cb175 (itRepl R K O tb sb cnt sc (x.setmx v1) y f3_n.a (rt sb A) (rt sb D) f3_n.a x.a C1 (hCO1) (hy_)) H132_ ?_)
  rintro v131_ p136_ w133_ ⟨rfl, rfl⟩ S135_ H134_
  have S137_ := Same.trans S120_ S135_
  have H138_ : Holds w133_ (ro R :: cl tb 188 [(vQ (ra y.a C1)), (vI .i64 cnt), (vQ sb)] :: clf x.a 185 [x.b, x.e, x.v, v1.1, (vQ f3_n.a), (vQ (rt sb A)), (vQ y.a), (vI .i64 x.c)] :: clf y.a 185 [y.b, y.e, y.v, y.mx, (vQ (rt sb D)), (vQ f3_n.a), (vQ (pa sb C1)), (vI .i64 y.c)] :: cx sb y.a (upC O (some (y.mx, y.km)) C1) :: clf sb 185 sc :: tr sb x.a A :: clf f3_n.a 185 [f3_n.b, f3_n.e, f3_n.v, f3_n.mx, (vQ (rt sb f3_l)), (vQ (rt sb f3_r)), (vQ x.a), (vI .i64 f3_n.c)] :: tr sb f3_n.a f3_l :: tr sb f3_n.a f3_r :: tr sb y.a D :: F) := (H134_)
  have hraC2 := fun z => ra_upC O C1 z (some (y.mx, y.km))
  have hpaC2 := pa_upC (O := O) sb C1 (some (y.mx, y.km))
  have hCO2 := COk.up (O := O) (R := R) (h := some (y.mx, y.km)) hCO1 (fun z hz => by cases hz; exact hy_.m)
  obtain ⟨C2, hC2e⟩ : ∃ z, z = upC O (some (y.mx, y.km)) C1 := ⟨_, rfl⟩
  have H139_ := H138_; rw [← hC2e] at H139_; rw [← hC2e] at hraC2 hpaC2 hCO2; rw [← hpaC2] at H139_; rw [← hraC2] at H139_
  have H140_ := H139_
  refine wn (hK129_ _ _ ?_)
  refine cr fun _ hK141_ => ?_
  refine sm (vQ y.a) ?_
  refine sm (vQ x.a) ?_
  refine sv (v := (vQ y.a)) (by kernel_rfl) ?_
  refine sv (v := (vP (some ⟨y.a, 5, none⟩))) (by kernel_rfl) ?_
  refine S_list0 (T_store1f (v := (vQ x.a)) rfl rfl z182 rfl H140_ 3 rfl (Nat.le_of_ble_eq_true (by rfl)) ?_)
  intro w142_ S144_ H143_
  have S145_ := Same.trans S137_ S144_
  refine wn (hK141_ _ _ ?_)
  refine C_reg ?_
  refine sm (vQ y.a) ?_
  refine sm (vQ tb) ?_
  refine sv (v := (vQ tb)) (by kernel_rfl) ?_
  refine sv (v := (vP (some ⟨tb, 2, none⟩))) (by kernel_rfl) ?_
  refine sv (v := (vQ sb)) (x_load1 rfl underlying182 rfl ((Holds.rd H143_ 1 rfl) 2 (vQ sb) rfl)) ?_
  have H146_ := ((Holds.bring (Holds.bring (Holds.bring H143_ 4 rfl) 10 rfl) 5 rfl) :)
  have H147_ := Holds.cons_cx (f := (⟨false, y, D⟩ : Fr K)) (x := x.a) H146_
  have H148_ := H147_
  have H150_ := ((Holds.bring (Holds.bring (Holds.bring (Holds.bring H148_ 4 rfl) 1 rfl) 4 rfl) 3 rfl) :)
  refine S_list (T_call (al := [(vP (some ⟨(pa sb ((⟨false, y, D⟩ : Fr K) :: C2)), 0, none⟩)), (vQ sb)]) (pre := [hol (some (x.setmx v1, f3_n.a, (rt sb A), y.a)), cx sb (ha sb (some (x.setmx v1, f3_n.a, (rt sb A), y.a))) ((⟨false, y, D⟩ : Fr K) :: C2), clf sb 185 sc]) rfl (lcons ((by first | rfl | omega | (simp; done) | (simp; omega)) : (vQ y.a) = (vP (some ⟨(pa sb ((⟨false, y, D⟩ : Fr K) :: C2)), 0, none⟩))) rfl) cb142 (itUpMax R K O sb sc (some (x.setmx v1, f3_n.a, (rt sb A), y.a)) ((⟨false, y, D⟩ : Fr K) :: C2) (COk.cons hy_ hD_ hCO2) (fun z hz => by cases hz; exact hvv1)) H150_ ?_)
  rintro v149_ p154_ w151_ ⟨rfl, rfl⟩ S153_ H152_
  have S155_ := Same.trans S145_ S153_
  have H156_ : Holds w151_ (ro R :: hol (some (x.setmx v1, f3_n.a, (rt sb A), y.a)) :: cx sb x.a (upC O (some v1) ((⟨false, y, D⟩ : Fr K) :: C2)) :: clf sb 185 sc :: cl tb 188 [(vQ (ra y.a C2)), (vI .i64 cnt), (vQ sb)] :: tr sb x.a A :: clf f3_n.a 185 [f3_n.b, f3_n.e, f3_n.v, f3_n.mx, (vQ (rt sb f3_l)), (vQ (rt sb f3_r)), (vQ x.a), (vI .i64 f3_n.c)] :: tr sb f3_n.a f3_l :: tr sb f3_n.a f3_r :: F) := (H152_)
  have H157_ := H156_
  rw [upC_cons] at H157_
  have hraC3 := fun z => ra_upT (O := O) (some v1) (⟨false, y, D⟩ : Fr K) C2 z
  have hpaC3 := pa_upT (O := O) sb C2 (some v1) (⟨false, y, D⟩ : Fr K)
  have hvv2 := VOk.u (O := O) (R := R) (h := (some v1)) (f := (⟨false, y, D⟩ : Fr K)) (VOk.so_ hvv1) hy_ hD_
  have hCO3 := COk.upT (O := O) (R := R) (h := (some v1)) (f := (⟨false, y, D⟩ : Fr K)) (C := C2) hCO2 (VOk.so_ hvv1) hy_ hD_
  obtain ⟨v2, hv2e⟩ : ∃ z, z = upV O (some v1) (⟨false, y, D⟩ : Fr K) := ⟨_, rfl⟩
  obtain ⟨C3, hC3e⟩ : ∃ z, z = upT O (some v1) (⟨false, y, D⟩ : Fr K) C2 := ⟨_, rfl⟩
  rw [← hv2e, ← hC3e] at H157_; rw [← hv2e] at hvv2; rw [← hC3e] at hCO3 hraC3 hpaC3
  have H158_ := H157_
  have H159_ := ((Holds.bring H158_ 2 rfl) :)
  have H160_ := Holds.cx_cons H159_
  have H161_ := H160_
  refine wpList_nil ?_
  refine R_0 rfl ?_
  have H162_ := ((Holds.bring (Holds.bring (Holds.bring H161_ 10 rfl) 10 rfl) 10 rfl) :)
  have H163_ := Holds.nd_tr (n := f3_n) H162_
  have H164_ := ((Holds.bring (Holds.bring (Holds.bring H163_ 8 rfl) 1 rfl) 6 rfl) :)
  have H165_ := Holds.nd_tr (n := x.setmx v1) (a := (Tr.nd f3_n f3_l f3_r)) (b := A) H164_
  have H166_ := ((Holds.bring (Holds.bring H165_ 2 rfl) 2 rfl) :)
  have H167_ := Holds.nd_tr (n := y.setmx v2) (a := D) (b := (Tr.nd (x.setmx v1) (Tr.nd f3_n f3_l f3_r) A)) H166_
  have H168_ := H167_; rw [hpaC3, hpaC2, hpaC1, hraC2, hraC1] at H168_; subst hC3e; subst hv2e; subst hC2e; subst hC1e; subst hv1e
  have H169_ := H168_
  have H170_ := Holds.pkF H169_ [2, 3, 0, 0, 0] 0
  exact ⟨_, _, rfl, ⟨rfl, rfl⟩, S155_, H170_⟩
end Go.Proofs.Ytlnihndjepjagaa
set_option linter.unusedVariables false
set_option linter.unusedSimpArgs false
namespace Go.Proofs.Ytlnihndjepjagaa
open Go Go.RowKit Gw Try
open Go.Value renaming int → vI, bool → vB, slice → vS, pointer → vP, agg → vA, tuple → vT

section
variable {K : Type}
def ND.er (n : ND K) : ND K := { n with mx := n.b, km := n.kb, c := 0 }
def ND.setc (n : ND K) (c : Int) : ND K := { n with c := c }
def ino : Tr K → List (ND K) | .lf => [] | .nd n a b => ino a ++ n.er :: ino b
def inl : List (Fr K) → List (ND K) | [] => [] | f :: C => if f.d then inl C else inl C ++ ino f.o ++ [f.n.er]
def inr : List (Fr K) → List (ND K) | [] => [] | f :: C => if f.d then f.n.er :: (ino f.o ++ inr C) else inr C
theorem ino_fill (f : Fr K) (t : Tr K) : ino (f.fill t) = if f.d then ino t ++ f.n.er :: ino f.o else ino f.o ++ f.n.er :: ino t := by
  obtain ⟨d, n, o⟩ := f
  cases d <;> rfl
theorem ino_plug : ∀ (C : List (Fr K)) (t : Tr K), ino (plug C t) = inl C ++ ino t ++ inr C
  | [], t => by simp [plug, inl, inr]
  | f :: C, t => by
    rw [plug, ino_plug C, ino_fill, inl, inr]
    split <;> simp
theorem er_setmx (n : ND K) (m : Value × K) : (n.setmx m).er = n.er := rfl
theorem rt_plug (sb : Nat) : ∀ (C : List (Fr K)) (n : ND K) (a b : Tr K), rt sb (plug C (.nd n a b)) = ra n.a C
  | [], n, a, b => rfl
  | ⟨d, m, o⟩ :: C, n, a, b => by
    rw [plug, ra]
    cases d <;> exact rt_plug sb C m _ _
variable (O : KO K)
theorem in_upC : ∀ (C : List (Fr K)) (h : Option (Value × K)), inl (upC O h C) = inl C ∧ inr (upC O h C) = inr C
  | [], h => by rw [upC_nil]; exact ⟨rfl, rfl⟩
  | f :: C, h => by
    rw [upC_cons]
    have ih : inl (upT O h f C) = inl C ∧ inr (upT O h f C) = inr C := by
      unfold upT
      split
      · exact ⟨rfl, rfl⟩
      · exact in_upC C _
    have e1 : (f.setmx (upV O h f)).n.er = f.n.er := rfl
    have e2 : (f.setmx (upV O h f)).d = f.d := rfl
    have e3 : (f.setmx (upV O h f)).o = f.o := rfl
    refine ⟨?_, ?_⟩
    · rw [inl, inl, ih.1, e1, e2, e3]
    · rw [inr, inr, ih.2, e1, e2, e3]
theorem in_upT (h : Option (Value × K)) (f : Fr K) (C : List (Fr K)) : inl (upT O h f C) = inl C ∧ inr (upT O h f C) = inr C := by
  unfold upT
  split
  · exact ⟨rfl, rfl⟩
  · exact in_upC O C _
def rOr (d : Bool) (x y : ND K) (A B D : Tr K) : Tr K := (⟨!d, x, A⟩ : Fr K).fill ((⟨d, y, D⟩ : Fr K).fill B)
theorem in_rC3 (d : Bool) (x y : ND K) (A B D : Tr K) (C : List (Fr K)) : inl (rC3 O d x y A B D C) = inl C ∧ inr (rC3 O d x y A B D C) = inr C := by
  have h1 := in_upT O (rmx B) ⟨!d, x, A⟩ C
  have h2 := in_upC O (rC1 O d x A B C) (some (y.mx, y.km))
  have h3 := in_upT O (some (rV1 O d x A B)) ⟨d, y, D⟩ (rC2 O d x y A B C)
  exact ⟨h3.1.trans (h2.1.trans h1.1), h3.2.trans (h2.2.trans h1.2)⟩
theorem ino_rTr (d : Bool) (x y : ND K) (A B D : Tr K) : ino (rTr O d x y A B D) = ino (rOr d x y A B D) := by
  cases d <;> simp [rTr, rTx, rOr, ino_fill, er_setmx]
/-! ### Each greatest end is right -/
def LocT : Tr K → Prop | .lf => True | .nd n a b => O.cm n.km (pick O (pick O (n.e, n.ke) (rmx a)) (rmx b)).2 = 0 ∧ LocT a ∧ LocT b
def LocC : Option (Value × K) → List (Fr K) → Prop | _, [] => True | h, f :: C => O.cm f.n.km (fmx O h f).2 = 0 ∧ LocT O f.o ∧ LocC (some (f.n.mx, f.n.km)) C
def LocS : List (Fr K) → Prop | [] => True | f :: C => LocT O f.o ∧ LocC O (some (f.n.mx, f.n.km)) C
variable {O}
theorem LocC.s {h : Option (Value × K)} {C : List (Fr K)} (hc : LocC O h C) : LocS O C := by
  cases C with
  | nil => trivial
  | cons f C => exact hc.2
theorem LocC.up : ∀ {C : List (Fr K)} {h : Option (Value × K)}, LocS O C → LocC O h (upC O h C)
  | [], h, _ => by rw [upC_nil]; trivial
  | f :: C, h, hs => by
    by_cases hc : O.cm f.n.km (fmx O h f).2 = 0
    · rw [upC_stop rfl hc]; exact ⟨hc, hs.1, hs.2⟩
    · rw [upC_go rfl hc]
      exact ⟨O.refl _, hs.1, LocC.up (LocC.s hs.2)⟩
theorem LocC.cons {h : Option (Value × K)} {f : Fr K} {C : List (Fr K)} (hs : LocS O (f :: C)) : LocC O h (f.setmx (upV O h f) :: upT O h f C) := by
  rw [← upC_cons]; exact LocC.up hs
theorem loc_fill {h : Option (Value × K)} {f : Fr K} {t : Tr K} (hh : rmx t = h) (h1 : O.cm f.n.km (fmx O h f).2 = 0) (h2 : LocT O f.o) (ht : LocT O t) : LocT O (f.fill t) := by
  subst hh
  obtain ⟨d, n, o⟩ := f
  cases d
  · exact ⟨h1, h2, ht⟩
  · exact ⟨h1, ht, h2⟩
theorem loc_unfill {f : Fr K} {t : Tr K} (h : LocT O (f.fill t)) : O.cm f.n.km (fmx O (rmx t) f).2 = 0 ∧ LocT O f.o ∧ LocT O t := by
  obtain ⟨d, n, o⟩ := f
  cases d
  · exact ⟨h.1, h.2.1, h.2.2⟩
  · exact ⟨h.1, h.2.2, h.2.1⟩
theorem rmx_fill (f : Fr K) (t : Tr K) : rmx (f.fill t) = some (f.n.mx, f.n.km) := by
  obtain ⟨d, n, o⟩ := f
  cases d <;> rfl
theorem loc_rot {d : Bool} {x y : ND K} {A B D : Tr K} {C : List (Fr K)} (hT : LocT O (rOr d x y A B D)) (hC : LocC O (some (x.mx, x.km)) C) :
    LocT O (rTr O d x y A B D) ∧ LocC O (some (rV2 O d x y A B D)) (rC3 O d x y A B D C) := by
  obtain ⟨h1, h2, h3⟩ := loc_unfill hT
  obtain ⟨h4, h5, h6⟩ := loc_unfill h3
  have a1 : LocC O (rmx B) _ := LocC.cons (h := rmx B) (f := ⟨!d, x, A⟩) (C := C) ⟨h2, hC⟩
  have a2 : LocC O (some (y.mx, y.km)) (rC2 O d x y A B C) := LocC.up (LocC.s a1.2.2)
  have a3 : LocC O (some (rV1 O d x A B)) _ := LocC.cons (h := some (rV1 O d x A B)) (f := ⟨d, y, D⟩) (C := rC2 O d x y A B C) ⟨h5, a2⟩
  exact ⟨loc_fill (rmx_fill _ _) a3.1 a3.2.1 (loc_fill rfl a1.1 a1.2.1 h6), a3.2.2⟩
theorem rmx_rTr (d : Bool) (x y : ND K) (A B D : Tr K) : rmx (rTr O d x y A B D) = some (rV2 O d x y A B D) := rmx_fill _ _
theorem loc_unplug : ∀ {C : List (Fr K)} {t : Tr K}, LocT O (plug C t) → LocT O t ∧ LocC O (rmx t) C
  | [], t, h => ⟨h, trivial⟩
  | f :: C, t, h => by
    have ih := loc_unplug (C := C) (t := f.fill t) h
    obtain ⟨h1, h2, h3⟩ := loc_unfill ih.1
    exact ⟨h3, h1, h2, by rw [← rmx_fill f t]; exact ih.2⟩
end

end Go.Proofs.Ytlnihndjepjagaa
set_option linter.unusedVariables false
set_option linter.unusedSimpArgs false
namespace Go.Proofs.Ytlnihndjepjagaa
open Go Go.RowKit Gw Try
open Go.Value renaming int → vI, bool → vB, slice → vS, pointer → vP, agg → vA, tuple → vT

section
variable {K : Type}
def topB : List (Fr K) → Prop | [] => True | f :: C => (C = [] → f.n.c = 0) ∧ topB C
variable (O : KO K)
theorem top_upC : ∀ (C : List (Fr K)) (h : Option (Value × K)), (upC O h C = [] ↔ C = []) ∧ (topB (upC O h C) ↔ topB C)
  | [], h => by rw [upC_nil]; exact ⟨Iff.rfl, Iff.rfl⟩
  | f :: C, h => by
    rw [upC_cons]
    have ih : (upT O h f C = [] ↔ C = []) ∧ (topB (upT O h f C) ↔ topB C) := by
      unfold upT
      split
      · exact ⟨Iff.rfl, Iff.rfl⟩
      · exact top_upC C _
    refine ⟨by simp, ?_⟩
    show ((upT O h f C = [] → f.n.c = 0) ∧ topB (upT O h f C)) ↔ ((C = [] → f.n.c = 0) ∧ topB C)
    rw [ih.1, ih.2]
theorem top_upT (h : Option (Value × K)) (f : Fr K) (C : List (Fr K)) : topB (upT O h f C) ↔ topB C := by
  unfold upT
  split
  · exact Iff.rfl
  · exact (top_upC O C _).2
theorem top_rC3 (d : Bool) (x y : ND K) (A B D : Tr K) (C : List (Fr K)) : topB (rC3 O d x y A B D C) ↔ topB C :=
  (top_upT O _ _ _).trans ((top_upC O _ _).2.trans (top_upT O _ _ _))
theorem rC3_cons (d : Bool) (x y : ND K) (A B D : Tr K) (f : Fr K) (C : List (Fr K)) : ∃ m C', rC3 O d x y A B D (f :: C) = f.setmx m :: C' := by
  have h1 : ∀ (h : Option (Value × K)) (g f : Fr K) (C : List (Fr K)), ∃ m C', upT O h g (f :: C) = f.setmx m :: C' := by
    intro h g f C
    unfold upT
    split
    · exact ⟨(f.n.mx, f.n.km), C, rfl⟩
    · exact ⟨_, _, upC_cons O _ f C⟩
  obtain ⟨m1, C1, e1⟩ := h1 (rmx B) ⟨!d, x, A⟩ f C
  obtain ⟨m3, C3, e3⟩ := h1 (some (rV1 O d x A B)) ⟨d, y, D⟩ ((f.setmx m1).setmx (upV O (some (y.mx, y.km)) (f.setmx m1))) (upT O (some (y.mx, y.km)) (f.setmx m1) C1)
  refine ⟨m3, C3, ?_⟩
  unfold rC3 rC2 rC1
  rw [e1, upC_cons, e3]
  rfl
variable {O} {R : HP}
theorem NOk.setc {n : ND K} (h : NOk O R n) (c : Int) : NOk O R (n.setc c) := ⟨h.b, h.e, h.m, h.v⟩
theorem TOk.fill {f : Fr K} {t : Tr K} (h1 : NOk O R f.n) (h2 : TOk O R f.o) (h3 : TOk O R t) : TOk O R (f.fill t) := by
  obtain ⟨d, n, o⟩ := f
  cases d
  · exact ⟨h1, h2, h3⟩
  · exact ⟨h1, h3, h2⟩
theorem TOk.unfill {f : Fr K} {t : Tr K} (h : TOk O R (f.fill t)) : NOk O R f.n ∧ TOk O R f.o ∧ TOk O R t := by
  obtain ⟨d, n, o⟩ := f
  cases d
  · exact ⟨h.1, h.2.1, h.2.2⟩
  · exact ⟨h.1, h.2.2, h.2.1⟩
theorem rot_ok {d : Bool} {x y : ND K} {A B D : Tr K} {C : List (Fr K)} (hT : TOk O R (rOr d x y A B D)) (hC : COk O R C) : TOk O R (rTr O d x y A B D) ∧ COk O R (rC3 O d x y A B D C) := by
  obtain ⟨h1, h2, h3⟩ := TOk.unfill hT
  obtain ⟨h4, h5, h6⟩ := TOk.unfill h3
  have v1 : O.Val R (rV1 O d x A B).1 (rV1 O d x A B).2 := VOk.u (f := ⟨!d, x, A⟩) h6.mx h1 h2
  have v2 : O.Val R (rV2 O d x y A B D).1 (rV2 O d x y A B D).2 := VOk.u (f := ⟨d, y, D⟩) (VOk.so_ v1) h4 h5
  have c1 : COk O R (rC1 O d x A B C) := COk.upT (f := ⟨!d, x, A⟩) hC h6.mx h1 h2
  have c2 : COk O R (rC2 O d x y A B C) := COk.up c1 (fun z hz => by cases hz; exact h4.m)
  exact ⟨TOk.fill (f := ⟨d, y.setmx _, D⟩) (h4.setmx v2) h5 (TOk.fill (f := ⟨!d, x.setmx _, A⟩) (h1.setmx v1) h2 h6), COk.upT (f := ⟨d, y, D⟩) c2 (VOk.so_ v1) h4 h5⟩
variable (O R) in
structure FxI (L : List (ND K)) (C : List (Fr K)) (t : Tr K) : Prop where
  tk : TOk O R t
  ck : COk O R C
  lt : LocT O t
  lc : LocC O (rmx t) C
  top : topB C
  ino : inl C ++ ino t ++ inr C = L
variable {L : List (ND K)} {C : List (Fr K)} {t : Tr K} {f : Fr K}
theorem FxI.up (h : FxI O R L (f :: C) t) : FxI O R L C (f.fill t) where
  tk := TOk.fill (h.ck f (List.mem_cons_self ..)).1 (h.ck f (List.mem_cons_self ..)).2 h.tk
  ck := fun g hg => h.ck g (List.mem_cons_of_mem _ hg)
  lt := loc_fill rfl h.lc.1 h.lc.2.1 h.lt
  lc := by rw [rmx_fill]; exact h.lc.2.2
  top := h.top.2
  ino := by
    rw [← h.ino, ino_fill, inl, inr]
    split <;> simp
theorem FxI.down (h : FxI O R L C (f.fill t)) (hc : C = [] → f.n.c = 0) : FxI O R L (f :: C) t where
  tk := (TOk.unfill h.tk).2.2
  ck := COk.cons (TOk.unfill h.tk).1 (TOk.unfill h.tk).2.1 h.ck
  lt := (loc_unfill h.lt).2.2
  lc := ⟨(loc_unfill h.lt).1, (loc_unfill h.lt).2.1, by rw [← rmx_fill f t]; exact h.lc⟩
  top := ⟨hc, h.top⟩
  ino := by
    rw [← h.ino, ino_fill, inl, inr]
    split <;> simp
theorem FxI.col {n : ND K} {a b : Tr K} (c : Int) (h : FxI O R L C (.nd n a b)) : FxI O R L C (.nd (n.setc c) a b) where
  tk := ⟨h.tk.1.setc c, h.tk.2⟩
  ck := h.ck
  lt := h.lt
  lc := h.lc
  top := h.top
  ino := h.ino
theorem FxI.colo {n u : ND K} {a b : Tr K} {d : Bool} (c : Int) (h : FxI O R L (⟨d, n, .nd u a b⟩ :: C) t) : FxI O R L (⟨d, n, .nd (u.setc c) a b⟩ :: C) t where
  tk := h.tk
  ck := by
    have h1 := h.ck _ (List.mem_cons_self ..)
    exact COk.cons (f := ⟨d, n, .nd (u.setc c) a b⟩) h1.1 ⟨h1.2.1.setc c, h1.2.2⟩ fun g hg => h.ck g (List.mem_cons_of_mem _ hg)
  lt := h.lt
  lc := h.lc
  top := h.top
  ino := h.ino
theorem FxI.rot {d : Bool} {x y : ND K} {A B D : Tr K} (h : FxI O R L C (rOr d x y A B D)) : FxI O R L (rC3 O d x y A B D C) (rTr O d x y A B D) := by
  have hr : rmx (rOr d x y A B D) = some (x.mx, x.km) := rmx_fill _ _
  have h1 := loc_rot h.lt (by rw [← hr]; exact h.lc)
  have h2 := rot_ok h.tk h.ck
  refine ⟨h2.1, h2.2, h1.1, by rw [rmx_rTr]; exact h1.2, (top_rC3 O d x y A B D C).2 h.top, ?_⟩
  rw [(in_rC3 O d x y A B D C).1, (in_rC3 O d x y A B D C).2, ino_rTr]
  exact h.ino
end

end Go.Proofs.Ytlnihndjepjagaa
set_option linter.unusedVariables false
set_option linter.unusedSimpArgs false
namespace Go.Proofs.Ytlnihndjepjagaa
open Go Go.RowKit Gw Try
open Go.Value renaming int → vI, bool → vB, slice → vS, pointer → vP, agg → vA, tuple → vT

section
variable {K : Type} {O : KO K} {R : HP} {L : List (ND K)}
theorem FxI.plug : ∀ {C : List (Fr K)} {t : Tr K}, FxI O R L C t → FxI O R L [] (Go.Proofs.Ytlnihndjepjagaa.plug C t)
  | [], t, h => h
  | f :: C, t, h => FxI.plug (C := C) (t := f.fill t) h.up
theorem plug_nd : ∀ (C : List (Fr K)) (n : ND K) (a b : Tr K), ∃ m u v, plug C (.nd n a b) = .nd m u v
  | [], n, a, b => ⟨n, a, b, rfl⟩
  | ⟨d, m, o⟩ :: C, n, a, b => by
    rw [plug]
    cases d <;> exact plug_nd C m _ _
def blackT : Tr K → Prop | .lf => True | .nd n _ _ => n.c = 0
theorem top_plug : ∀ {C : List (Fr K)} {t : Tr K}, blackT (plug C t) → topB C
  | [], t, _ => trivial
  | f :: C, t, h => by
    refine ⟨fun e => ?_, top_plug (C := C) (t := f.fill t) h⟩
    subst e
    obtain ⟨d, n, o⟩ := f
    cases d <;> exact h
theorem ra_rC3 (d : Bool) (x y : ND K) (A B D : Tr K) (C : List (Fr K)) (z : Nat) : ra z (rC3 O d x y A B D C) = ra z C :=
  (ra_upT _ _ _ _).trans ((ra_upC O _ _ _).trans (ra_upT _ _ _ _))
theorem pa_rC3 (sb : Nat) (d : Bool) (x y : ND K) (A B D : Tr K) (C : List (Fr K)) : pa sb (rC3 O d x y A B D C) = pa sb C :=
  (pa_upT sb _ _ _).trans ((pa_upC sb _ _).trans (pa_upT sb _ _ _))
end
section
variable {K : Type} {O : KO K}
theorem upC_len : ∀ (C : List (Fr K)) (h : Option (Value × K)), (upC O h C).length = C.length
  | [], h => by rw [upC_nil]
  | f :: C, h => by
    rw [upC_cons]
    have : (upT O h f C).length = C.length := by
      unfold upT
      split
      · rfl
      · exact upC_len C _
    simp [this]
theorem upT_len (h : Option (Value × K)) (f : Fr K) (C : List (Fr K)) : (upT O h f C).length = C.length := by
  unfold upT
  split
  · rfl
  · exact upC_len C _
theorem rC3_len (d : Bool) (x y : ND K) (A B D : Tr K) (C : List (Fr K)) : (rC3 O d x y A B D C).length = C.length := by
  unfold rC3 rC2 rC1
  rw [upT_len, upC_len, upT_len]
end

end Go.Proofs.Ytlnihndjepjagaa
