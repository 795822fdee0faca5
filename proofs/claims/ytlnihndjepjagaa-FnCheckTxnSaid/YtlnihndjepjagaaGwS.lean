/- The own words of these proofs: elements of slices of one's own, families of blocks, methods behind a pointer. -/
import Derived.Test.YtlnihndjepjagaaGwQ
set_option linter.unusedVariables false
set_option linter.unusedSimpArgs false
set_option linter.unusedSectionVars false
namespace Go.Proofs.Ytlnihndjepjagaa.Gw
open Go Go.RowKit
section
variable {P : Program} {n : Nat} {e : Env} {w : World} {K : Value → World → Prop} {d : Option Nat} {ty : TypeId} {pos : String} {af : Array Edge} {g : Option (Nat × Bool)} {l : List SP}
/-! ### Elements of a slice of one's own -/
theorem sl_form {T sz m : Nat} {v : Value} {xs : List Value} {h : HP} (a : sl T sz v m xs h) (hm : 0 < m) : ∃ pr sp cap, v = .slice (some ⟨sb v, so v, none⟩) m cap ∧ pr.length = so v ∧ m ≤ cap ∧ sp.length = (cap - m) * sz ∧ xs.length = m * sz ∧ cl (sb v) T (pr ++ xs ++ sp) h := by
  rcases a with ⟨rfl, rfl, rfl⟩ | ⟨b, pr, sp, cap, rfl, e2, e3, e4, c⟩
  · omega
  · exact ⟨pr, sp, cap, rfl, rfl, e4, e3, e2, c⟩
theorem x_idxSl {t el : TypeId} {x y : Operand} {T m i sz bb : Nat} {v : Value} {xs : List Value} {z : Option Value} {k' : IntKind} {p : Addr} {ii : Int} (hx : ev n e x = v) (h : Holds w l) (j : Nat) (hj : l[j]? = some (sl T sz v m xs)) (hy : ev n e y = .int k' ii)
    (hu : P.underlying t = some (.slice el)) (hz : tin P el = some (sz, bb, z)) (h0 : 0 ≤ ii) (hi : ii < m) (hn : ii.toNat = i) (hp : (⟨sb v, so v + i * sz, none⟩ : Addr) = p) :
    (execOp (ev n e) ⟨d, .indexAddr t x y, ty, pos, af, g⟩).run P w = .ok (.value (.pointer (some p))) w :=
  x_idxRS hx (h.sl_RSw j hj) hy hu hz h0 hi hn hp
theorem sl_cell {T sz m : Nat} {v : Value} {xs : List Value} (h : Holds w l) (j : Nat) (hj : l[j]? = some (sl T sz v m xs)) {k : Nat} {u : Value} (hk : xs[k]? = some u) : w.cell? ⟨sb v, so v + k, none⟩ = some u := by
  have hr := h.sl_RSw j hj
  have hlen := hr.1
  have hk' := (List.getElem?_eq_some_iff.1 hk).1
  have hm : 0 < m := by
    rcases Nat.eq_zero_or_pos m with h0 | h0
    · rw [h0, Nat.zero_mul] at hlen; omega
    · exact h0
  obtain ⟨b, off, cap, rfl, _, hc⟩ := hr.at_ hm
  exact hc.cell (Sub.rfl' _) hk
theorem T_storeSl {t T bb sz m k : Nat} {z : Option Value} {x y : Operand} {off : Nat} {b : Nat} {v u : Value} {xs : List Value} (hx : ev n e x = .pointer (some ⟨b, off, none⟩)) (hy : ev n e y = u) (hz : tin P t = some (1, bb, z))
    (hv : u.oneCell' = true) (h : Holds w l) (i : Nat) (hi : l[i]? = some (sl T sz v m xs)) (hk : k < xs.length) (hb : b = sb v) (ho : off = so v + k) (c : ∀ w', Same w w' → Holds w' (l.set i (sl T sz v m (xs.set k u))) → K undef w') :
    Stp P n e ⟨d, .store t x y, ty, pos, af, g⟩ w K := by
  subst hb; subst ho
  have hlen : xs.length = m * sz := (h.sl_RSw i hi).1
  have hm : 0 < m := by
    rcases Nat.eq_zero_or_pos m with h0 | h0
    · rw [h0, Nat.zero_mul] at hlen; omega
    · exact h0
  obtain ⟨b', pr, sp, cap, hve, e2, e3, e4, hh⟩ := h.sl_open i hi hm
  have es : sb v = b' := by rw [hve]; rfl
  have eo : so v = pr.length := by rw [hve]; rfl
  have hil : i < l.length := (List.getElem?_eq_some_iff.1 hi).1
  rw [es, eo] at hx
  refine T_store1 hx hy hz hv hh i (T := T) (cs := pr ++ xs ++ sp) (by simp [hil]) (by simp; omega) fun w' s h' => c w' s ?_
  have hset : (pr ++ xs ++ sp).set (pr.length + k) u = pr ++ xs.set k u ++ sp := by
    rw [List.append_assoc, List.set_append_right _ _ (by omega), Nat.add_sub_cancel_left, List.set_append_left _ _ hk, List.append_assoc]
  rw [hset] at h'
  have := Holds.to_sl (b := b') h' i pr sp (xs := xs.set k u) (T := T) (sz := sz) (m := m) (cap := cap) (by simp [hil]) (by simpa using e2) e3 e4
  rw [← hve] at this
  simpa using this
/-- The front of a slice of one's own. -/
theorem Holds.sl_trunc {T sz m k : Nat} {v : Value} {xs : List Value} (h : Holds w l) (i : Nat) (hi : l[i]? = some (sl T sz v m xs)) (hk : k ≤ m) : Holds w (l.set i (sl T sz (slc v 0 k sz) k (xs.take (k * sz)))) := by
  refine h.map_at i hi fun h' a => ?_
  rcases a with ⟨rfl, rfl, rfl⟩ | ⟨b, pr, sp, cap, rfl, e2, e3, e4, c⟩
  · obtain rfl : k = 0 := by omega
    exact .inl ⟨rfl, rfl, by simp⟩
  · refine .inr ⟨b, pr, xs.drop (k * sz) ++ sp, cap, ?_, ?_, ?_, by omega, ?_⟩
    · simp only [slc]
      by_cases hc : cap = 0
      · subst hc; simp
      · rw [if_neg hc]; simp [Addr.add]
    · rw [List.length_take, e2]
      have := Nat.mul_le_mul_right sz hk
      omega
    · rw [List.length_append, List.length_drop, e2, e3]
      have h1 := Nat.mul_le_mul_right sz hk
      have h2 : (cap - m) * sz = cap * sz - m * sz := Nat.sub_mul ..
      have h3 : (cap - k) * sz = cap * sz - k * sz := Nat.sub_mul ..
      have h4 := Nat.mul_le_mul_right sz e4
      omega
    · have : pr ++ xs.take (k * sz) ++ (xs.drop (k * sz) ++ sp) = pr ++ xs ++ sp := by
        rw [List.append_assoc, List.append_assoc, ← List.append_assoc (List.take _ _), List.take_append_drop]
      rw [this]; exact c
theorem x_sliceSl {t el : TypeId} {x : Operand} {lo hi : Option Operand} {v : Value} {T sz m bb lw h : Nat} {xs : List Value} {z : Option Value} (hx : ev n e x = v) (H : Holds w l) (j : Nat) (hj : l[j]? = some (sl T sz v m xs)) (hu : P.underlying t = some (.slice el))
    (hz : tin P el = some (sz, bb, z)) (hm : h ≤ m) (hh : (match hi.map (ev n e) with | none => h = m | some v => ∃ k i, v = .int k i ∧ 0 ≤ i ∧ i ≤ m ∧ i.toNat = h))
    (hl : (match lo.map (ev n e) with | none => lw = 0 | some v => ∃ k i, v = .int k i ∧ 0 ≤ i ∧ i ≤ h ∧ i.toNat = lw)) :
    (execOp (ev n e) ⟨d, .slice t x lo hi none, ty, pos, af, g⟩).run P w = .ok (.value (Gw.slc v lw h sz)) w := x_sliceRS hx (H.sl_RSw j hj) hu hz hm hh hl
/-! ### A family of blocks of one type -/
def fam (T : TypeId) (q : List (Nat × List Value)) : SP := grp (q.map fun p => cl p.1 T p.2)
theorem Holds.fam_at {T : TypeId} {q : List (Nat × List Value)} (h : Holds w l) (i : Nat) (hi : l[i]? = some (fam T q)) : Holds w (q.map fun p => cl p.1 T p.2) := by
  obtain ⟨h', s, a⟩ := Sat.at i hi h
  exact a.mono s
theorem fam_rd {T : TypeId} {q : List (Nat × List Value)} (h : Holds w l) (i : Nat) (hi : l[i]? = some (fam T q)) {k b : Nat} {cs : List Value} (hk : q[k]? = some (b, cs)) : Rd b cs w :=
  (h.fam_at i hi).rd k (T := T) (by simp [hk])
theorem Sat.set_at {l m : List SP} {g : HP} (i : Nat) (h : Sat (l.set i (grp m)) g) (hi : i < l.length) : ∃ h1 k, Sub h1 g ∧ Sub k g ∧ Dis h1 k ∧ Sat m h1 ∧ Sat (l.eraseIdx i) k := by
  obtain ⟨h1, k, s, t, dd, a, r⟩ := Sat.bring i (A := grp m) (by simp [hi]) h
  rw [List.eraseIdx_set_eq] at r
  exact ⟨h1, k, s, t, dd, a, r⟩
theorem T_storeFam {t T bb : Nat} {z : Option Value} {x y : Operand} {b off k : Nat} {u : Value} {cs : List Value} {q : List (Nat × List Value)} (hx : ev n e x = .pointer (some ⟨b, off, none⟩)) (hy : ev n e y = u) (hz : tin P t = some (1, bb, z))
    (hv : u.oneCell' = true) (h : Holds w l) (i : Nat) (hi : l[i]? = some (fam T q)) (hk : q[k]? = some (b, cs)) (ho : off < cs.length) (c : ∀ w', Same w w' → Holds w' (l.set i (fam T (q.set k (b, cs.set off u)))) → K undef w') :
    Stp P n e ⟨d, .store t x y, ty, pos, af, g⟩ w K := by
  have hil : i < l.length := (List.getElem?_eq_some_iff.1 hi).1
  have h1 : Holds w (fam T q :: l.eraseIdx i) := h.bring i hi
  have h2 : Holds w ((q.map fun p => cl p.1 T p.2) ++ l.eraseIdx i) := Holds.ungrp h1
  have hkl : k < q.length := (List.getElem?_eq_some_iff.1 hk).1
  refine T_store1 hx hy hz hv h2 k (T := T) (cs := cs) (by rw [List.getElem?_append_left (by simpa using hkl)]; simp [hk]) ho fun w' s h' => c w' s ?_
  rw [List.set_append_left _ _ (by simpa using hkl)] at h'
  have e : (q.map fun p => cl p.1 T p.2).set k (cl b T (cs.set off u)) = (q.set k (b, cs.set off u)).map fun p => cl p.1 T p.2 := by rw [List.map_set]
  rw [e] at h'
  have h3 : Holds w' (fam T (q.set k (b, cs.set off u)) :: l.eraseIdx i) := Holds.grp h'
  refine Sat.back i (A := fam T (q.set k (b, cs.set off u))) (by simp [hil]) ?_
  rw [List.eraseIdx_set_eq]
  exact h3
theorem T_storeFamN {t s T bb : Nat} {z : Option Value} {x y : Operand} {b off k : Nat} {vs cs : List Value} {q : List (Nat × List Value)} (hx : ev n e x = .pointer (some ⟨b, off, none⟩)) (hy : ev n e y = .agg vs.toArray) (hz : tin P t = some (s, bb, z))
    (hs : vs.length = s) (hv : ∀ v ∈ vs, v.oneCell' = true) (h : Holds w l) (i : Nat) (hi : l[i]? = some (fam T q)) (hk : q[k]? = some (b, cs)) (ho : off + vs.length ≤ cs.length)
    (c : ∀ w', Same w w' → Holds w' (l.set i (fam T (q.set k (b, cs.take off ++ vs ++ cs.drop (off + vs.length))))) → K undef w') :
    Stp P n e ⟨d, .store t x y, ty, pos, af, g⟩ w K := by
  have hil : i < l.length := (List.getElem?_eq_some_iff.1 hi).1
  have h1 : Holds w (fam T q :: l.eraseIdx i) := h.bring i hi
  have h2 : Holds w ((q.map fun p => cl p.1 T p.2) ++ l.eraseIdx i) := Holds.ungrp h1
  have hkl : k < q.length := (List.getElem?_eq_some_iff.1 hk).1
  refine T_storeN hx hy hz hs hv h2 k (T := T) (cs := cs) (by rw [List.getElem?_append_left (by simpa using hkl)]; simp [hk]) ho fun w' s h' => c w' s ?_
  rw [List.set_append_left _ _ (by simpa using hkl)] at h'
  have e : (q.map fun p => cl p.1 T p.2).set k (cl b T (cs.take off ++ vs ++ cs.drop (off + vs.length))) = (q.set k (b, cs.take off ++ vs ++ cs.drop (off + vs.length))).map fun p => cl p.1 T p.2 := by rw [List.map_set]
  rw [e] at h'
  have h3 : Holds w' (fam T (q.set k (b, cs.take off ++ vs ++ cs.drop (off + vs.length))) :: l.eraseIdx i) := Holds.grp h'
  refine Sat.back i (A := fam T (q.set k (b, cs.take off ++ vs ++ cs.drop (off + vs.length)))) (by simp [hil]) ?_
  rw [List.eraseIdx_set_eq]
  exact h3
theorem Sat.perm {l m : List SP} (p : l.Perm m) : ∀ {g : HP}, Sat l g → Sat m g := by
  induction p with
  | nil => intro g h; exact h
  | cons x _ ih => intro g h; exact Sat.cons_map (fun g' h' => ih h') h
  | swap x y l => intro g h; exact Sat.swap h
  | trans _ _ ih1 ih2 => intro g h; exact ih2 (ih1 h)
theorem Holds.fam_perm {T : TypeId} {q q' : List (Nat × List Value)} (h : Holds w l) (i : Nat) (hi : l[i]? = some (fam T q)) (p : q.Perm q') : Holds w (l.set i (fam T q')) :=
  h.map_at i hi fun h' a => Sat.perm (p.map _) a
theorem Holds.fam_push {T : TypeId} {q : List (Nat × List Value)} {b : Nat} {cs : List Value} (h : Holds w (cl b T cs :: fam T q :: l)) : Holds w (fam T (q ++ [(b, cs)]) :: l) := by
  have h1 : Holds w (fam T q :: cl b T cs :: l) := Sat.swap h
  have h2 : Holds w ((q.map fun p => cl p.1 T p.2) ++ (cl b T cs :: l)) := Holds.ungrp h1
  refine Holds.grp ?_
  rw [List.map_append, List.append_assoc]
  exact h2
theorem Holds.fam_take {T : TypeId} {q : List (Nat × List Value)} {k b : Nat} {cs : List Value} (h : Holds w (fam T q :: l)) (hk : q[k]? = some (b, cs)) : Holds w (cl b T cs :: fam T (q.eraseIdx k) :: l) := by
  have h2 : Holds w ((q.map fun p => cl p.1 T p.2) ++ l) := Holds.ungrp h
  have hkl : k < q.length := (List.getElem?_eq_some_iff.1 hk).1
  have h3 := h2.bring k (A := cl b T cs) (by rw [List.getElem?_append_left (by simpa using hkl)]; simp [hk])
  rw [List.eraseIdx_append_of_lt_length (by simpa using hkl)] at h3
  have e : (q.map fun p => cl p.1 T p.2).eraseIdx k = (q.eraseIdx k).map fun p => cl p.1 T p.2 := by
    apply List.ext_getElem?; intro i
    simp only [List.getElem?_eraseIdx, List.getElem?_map]
    split <;> rfl
  rw [e] at h3
  exact Sat.cons_map (fun g' h' => by
    obtain ⟨a, b, s1, s2, dd, x, y⟩ := Sat.append.1 h'
    exact ⟨a, b, s1, s2, dd, x, y⟩) h3
theorem Holds.fam_nil {T : TypeId} (h : Holds w l) : Holds w (fam T [] :: l) := Holds.grp (l := []) h
theorem Holds.fam_ne {T : TypeId} {q : List (Nat × List Value)} (h : Holds w l) (i : Nat) (hi : l[i]? = some (fam T q)) : (q.map (·.1)).Nodup := by
  have h1 := h.fam_at i hi
  clear h hi
  have key : ∀ (q : List (Nat × List Value)) (g : HP), Sat (q.map fun p => cl p.1 T p.2) g → (q.map (·.1)).Nodup ∧ ∀ p ∈ q, ∃ o, g p.1 = some o := by
    intro q
    induction q with
    | nil => intro g _; exact ⟨List.nodup_nil, fun p hp => by cases hp⟩
    | cons p q ih =>
      intro g h
      obtain ⟨h1, k, s, t, dd, ⟨fr, a, _⟩, r⟩ := h
      obtain ⟨n1, n2⟩ := ih k r
      refine ⟨?_, fun x hx => ?_⟩
      · simp only [List.map_cons, List.nodup_cons]
        refine ⟨fun hm => ?_, n1⟩
        obtain ⟨y, hy, ey⟩ := List.mem_map.1 hm
        obtain ⟨o, ho⟩ := n2 y hy
        rcases dd p.1 with z | z
        · rw [z] at a; cases a
        · rw [← ey, ho] at z; cases z
      · rcases List.mem_cons.1 hx with rfl | hx
        · exact ⟨_, s _ _ a⟩
        · obtain ⟨o, ho⟩ := n2 x hx
          exact ⟨o, t _ _ ho⟩
  exact (key q _ h1).1
theorem Holds.ro_less {R R' : HP} (h : Holds w (ro R' :: l)) (s : Sub R R') : Holds w (ro R :: l) := Sat.head_map (fun _ a => Sub.trans' s a) h
theorem flatMap_one {α : Type} (f : α → Value) (l : List α) : (l.flatMap fun a => [f a]) = l.map f := by
  induction l with
  | nil => rfl
  | cons a l ih => simp [ih]
section
variable {H : Type} {enc : TypeId × Value → H} {base : Nat} {spare : Nat → Bool} {held : Bool} {fuel : Nat} {t : TypeId} {xs : List Value}
theorem elem_int {k : IntKind} (hu : P.underlying t = some (.int k)) (h : ReadsF enc P w base spare held fuel t xs) : ∃ a, xs = [.int k a] ∧ (Lit.int k a).wf = true := by
  obtain ⟨y, h⟩ := h
  obtain ⟨a, e, _, wf⟩ := DataW.trod_int hu h
  exact ⟨a, e, wf⟩
theorem elem_string (hu : P.underlying t = some .string) (h : ReadsF enc P w base spare held fuel t xs) : ∃ a : ByteArray, xs = [.string a] ∧ a.size ≤ maxLen := by
  obtain ⟨y, h⟩ := h
  cases fuel with
  | zero => simp [DataW.trod] at h
  | succ m =>
    unfold DataW.trod at h
    rw [hu] at h
    split at h <;> simp_all
end
/-! ### What stays readable -/
def SlRd (v : Value) (xs : List Value) (w : World) : Prop := ∀ (k : Nat) (u : Value), xs[k]? = some u → w.cell? ⟨sb v, so v + k, none⟩ = some u
def FamRd (q : List (Nat × List Value)) (w : World) : Prop := ∀ (k b : Nat) (cs : List Value), q[k]? = some (b, cs) → Rd b cs w
theorem Holds.slrd {T sz m : Nat} {v : Value} {xs : List Value} (h : Holds w l) (j : Nat) (hj : l[j]? = some (sl T sz v m xs)) : SlRd v xs w := fun _ _ hk => sl_cell h j hj hk
theorem Holds.famrd {T : TypeId} {q : List (Nat × List Value)} (h : Holds w l) (i : Nat) (hi : l[i]? = some (fam T q)) : FamRd q w := fun _ _ _ hk => fam_rd h i hi hk
theorem SlRd.cells {v : Value} {xs : List Value} (h : SlRd v xs w) (j : Nat) {vs : List Value} (hv : (xs.drop j).take vs.length = vs) : ∀ i u, vs[i]? = some u → w.cell? ((Addr.mk (sb v) (so v + j) none).add i) = some u := by
  intro i u hi
  rw [add_mk, Nat.add_assoc]
  refine h _ _ ?_
  rw [← hv] at hi
  rw [List.getElem?_take] at hi
  split at hi
  · rw [List.getElem?_drop] at hi; exact hi
  · cases hi
theorem x_idxSlR {R : HP} {t el : TypeId} {x y : Operand} {m i sz bb : Nat} {v : Value} {xs : List Value} {z : Option Value} {k' : IntKind} {p : Addr} {ii : Int} (hx : ev n e x = v) (h : RS R sz v m xs) (hy : ev n e y = .int k' ii)
    (hu : P.underlying t = some (.slice el)) (hz : tin P el = some (sz, bb, z)) (h0 : 0 ≤ ii) (hi : ii < m) (hn : ii.toNat = i) (hp : (⟨sb v, so v + i * sz, none⟩ : Addr) = p) :
    (execOp (ev n e) ⟨d, .indexAddr t x y, ty, pos, af, g⟩).run P w = .ok (.value (.pointer (some p))) w := x_idxRS hx h hy hu hz h0 hi hn hp
/-! ### A method of what a pointer points to -/
theorem wrapnil {ts : Array TypeId} {t : TypeId} {p : Addr} {a b : String} : (Builtin.ssaWrapNilChk_ ts t #[.pointer (some p), strVal a, strVal b]).run P w = .ok (.pointer (some p)) w := rfl
theorem method_ptr {t el : TypeId} {f : FuncId} {nm : String} {fuel : Nat} {p : Addr} {v : Value} (hm : ((P.info? t).bind fun i => (i.methods.find? (·.name == nm)).map fun m => (m.path.toList, m.func)) = some ([], some (f, false)))
    (hu : P.underlying t = some (.pointer el)) (hl : (loadVar el p).run P w = .ok v w) : (method (fuel + 1) t (.pointer (some p)) nm).run P w = .ok (f, v) w := by
  cases hi : P.info? t with
  | none => rw [hi] at hm; cases hm
  | some i =>
    rw [hi] at hm
    simp only [Option.bind_some] at hm
    cases hf : i.methods.find? (·.name == nm) with
    | none => rw [hf] at hm; cases hm
    | some m =>
      rw [hf] at hm
      simp only [Option.map_some, Option.some.injEq, Prod.mk.injEq] at hm
      obtain ⟨h1, h2⟩ := hm
      unfold method
      simp only [Sem.run_bind, run_typeInfo hi, Result.andThen_ok, hf, h1, h2, follow, Sem.run_pure, receiverAt, run_underlying hu, Place.get]
      have hp : m.path.isEmpty = true := by simpa using h1
      simp only [hp, if_true, Sem.run_bind, wrapnil, Result.andThen_ok]
      simp [asAddr, hl]
theorem T_invokeWw {f : FuncId} {x : Operand} {lo : List Operand} {t : TypeId} {v recv : Value} {nm : String} {al : List Value} {at_ : Array TypeId} (hx : ev n e x = .iface t v)
    (hm : (method (P.types.size + Made.depth) t v nm).run P w = .ok (f, recv) w) (ha : recv :: lo.map (ev n e) = al) (hc : callable P f = true)
    (h : Calls P f al.toArray w fun r w' => ∃ v, r = .returned v ∧ K v w') : Stp P n e ⟨d, .call { callee := .invoke x nm, args := lo.toArray, argTypes := at_ }, ty, pos, af, g⟩ w K := by
  subst ha
  refine .inr (.inr ⟨f, _, w, ?_, h⟩)
  simp only [execOp, resolve, hx, Sem.run_bind, Sem.run_pure, Result.andThen_ok, invoke]
  simp [callMethod, hm, run_callFunc hc, List.take_of_length_le]
theorem T_invokeP {f : FuncId} {x : Operand} {lo : List Operand} {t el : TypeId} {p : Addr} {recv : Value} {nm : String} {al : List Value} {at_ : Array TypeId} {R : HP} {pre F : List SP} {Qc : Value → List SP → Prop} (hx : ev n e x = .iface t (.pointer (some p)))
    (hm : ((P.info? t).bind fun i => (i.methods.find? (·.name == nm)).map fun m => (m.path.toList, m.func)) = some ([], some (f, false))) (hu : P.underlying t = some (.pointer el)) (hl : (loadVar el p).run P w = .ok recv w)
    (ha : recv :: lo.map (ev n e) = al) (hc : callable P f = true)
    (ht : Tri P f al.toArray R pre Qc) (h : Holds w (ro R :: (pre ++ F)))
    (k : ∀ v post w', Qc v post → Same w w' → Holds w' (ro R :: (post ++ F)) → K v w') : Stp P n e ⟨d, .call { callee := .invoke x nm, args := lo.toArray, argTypes := at_ }, ty, pos, af, g⟩ w K :=
  T_invokeWw hx (by
    have : P.types.size + Made.depth = (P.types.size + Made.depth - 1) + 1 := by simp [Made.depth]
    rw [this]; exact method_ptr hm hu hl) ha hc ((ht w F h).mono fun r w' ⟨v, post, er, q, s, hh⟩ => ⟨v, er, k v post w' q s hh⟩)
end
end Go.Proofs.Ytlnihndjepjagaa.Gw
