/- The own words of these proofs: rows copied, grown and asked whether they overlap; elements of several cells. -/
import Derived.Test.YtlnihndjepjagaaGwU
import Derived.Lib.Overlaps
set_option linter.unusedVariables false
set_option linter.unusedSimpArgs false
set_option linter.unusedSectionVars false
namespace Go.Proofs.Ytlnihndjepjagaa.Gw
open Go Go.RowKit
section
variable {P : Program} {n : Nat} {e : Env} {w : World} {K : Value → World → Prop} {Q : Exit → Act → World → Prop} {d : Option Nat} {ty : TypeId} {pos : String} {af : Array Edge} {g : Option (Nat × Bool)} {l : List SP} {ds : List Deferred}
theorem run_copy_k (w : World) (dT sT ty elem : TypeId) (b o dLen dCap : Nat) (a : Addr) (sLen sCap sz : Nat) (cs : List Value)
    (hu : P.underlying dT = some (.slice elem)) (hs : (P.info? elem).map (·.size) = some sz) (hn : cs.length = Nat.min sLen dLen * sz)
    (hsrc : ∀ j v, cs[j]? = some v → w.cell? (a.add j) = some v) (hc : ∀ j, j < cs.length → (w.cell? ⟨b, o + j, none⟩).isSome = true) (hf : ∀ j, j < cs.length → w.frozen? ⟨b, o + j, none⟩ = false) (h1 : ∀ v ∈ cs, v.oneCell' = true) :
    (Builtin.copy_ #[dT, sT] ty #[.slice (some ⟨b, o, none⟩) dLen dCap, .slice (some a) sLen sCap]).run P w = .ok (goInt (Nat.min sLen dLen)) (w.setCells b o cs) := by
  have hl := run_loadCells_list (P := P) w a cs hsrc
  have hst := run_storeCells_cells (P := P) b o cs 0 w (by simpa using hc) (by simpa using hf) h1
  cases hq : P.info? elem with
  | none => simp [hq] at hs
  | some i =>
    have hi : i.size = sz := by simpa [hq] using hs
    simp [Builtin.copy_, run_underlying hu, Builtin.lenOf, Builtin.firstCells, sizeOf, typeInfo, hq, hi, ← hn, hl, hst]
/-- copy, from anywhere (the same row too), elements of sz cells. -/
theorem T_copyK {dT sT el sz T b off dLen dCap sb so sLen sCap k bb : Nat} {z : Option Value} {o1 o2 : Operand} {ys cs : List Value} (h1 : ev n e o1 = .slice (some ⟨b, off, none⟩) dLen dCap) (h2 : ev n e o2 = .slice (some ⟨sb, so, none⟩) sLen sCap)
    (hu : P.underlying dT = some (.slice el)) (hz : tin P el = some (sz, bb, z)) (h : Holds w l) (i : Nat) (hi : l[i]? = some (cl b T cs)) (hk : Nat.min sLen dLen = k) (hys : ys.length = k * sz)
    (hsrc : ∀ j v, ys[j]? = some v → w.cell? ⟨sb, so + j, none⟩ = some v) (hoff : off + ys.length ≤ cs.length)
    (one : ∀ u ∈ ys, u.oneCell' = true) (kk : ∀ w', Same w w' → Holds w' (l.set i (cl b T (cs.take off ++ ys ++ cs.drop (off + ys.length)))) → K (.int .i64 k) w') :
    Stp P n e ⟨d, .call { callee := .builtin .copy, args := #[o1, o2], argTypes := #[dT, sT] }, ty, pos, af, g⟩ w K := by
  have hsz : (P.info? el).map (·.size) = some sz := by
    obtain ⟨ti, hti, e1, _⟩ := tin_info hz
    rw [hti]; simp [e1]
  subst hk
  have hr := run_copy_k (P := P) w dT sT ty el b off dLen dCap ⟨sb, so, none⟩ sLen sCap sz ys hu hsz hys (fun j v hj => by rw [add_mk]; exact hsrc j v hj)
      (fun j hj => by rw [h.cl_cell i hi (List.getElem?_eq_getElem (by omega : off + j < cs.length))]; rfl) (fun j hj => h.cl_frozen i hi (by omega)) one
  rw [setCells_eq] at hr
  refine .inl ⟨_, setCells w b off ys, ?_, kk _ (Same.setCells b ys _ w) (Holds.setCells i ys off w l cs h hi hoff)⟩
  simp only [execOp, resolve, Sem.run_bind, Sem.run_pure, Result.andThen_ok, invoke, builtin]
  simp [h1, h2, hr, goInt]
/-- Zeros appended beyond what there is room for: a new row. -/
theorem T_appendGrowZ {t tx el sz bb off sb m c k : Nat} {kn kq : IntKind} {o1 o2 : Operand} {z : Value} {zs xs : List Value} {ki : Int} (h1 : ev n e o1 = .slice (some ⟨sb, off, none⟩) m c) (h2 : ev n e o2 = .int kq ki) (hki : ki = k) (ht : P.underlying t = some (.slice el)) (htx : P.underlying tx = some (.int kn))
    (hz : tin P el = some (sz, bb, some z)) (hzc : z.cells = zs.toArray) (hzl : zs.length = sz) (hsz : 0 < sz) (hb : 0 < bb) (hk : 0 < k) (hg : c < m + k)
    (h : Holds w l) (hxs : xs.length = m * sz) (hsrc : ∀ j v, xs[j]? = some v → w.cell? ⟨sb, off + j, none⟩ = some v) (hroom : (m + k) * bb ≤ 140737488355328)
    (kk : ∀ b' c' w', Same w w' → m + k ≤ c' → Holds w' (cl b' el (xs ++ List.flatten (List.replicate k zs) ++ List.flatten (List.replicate (c' - (m + k)) zs)) :: l) → K (.slice (some ⟨b', 0, none⟩) (m + k) c') w') :
    Stp P n e ⟨d, .call { callee := .builtin .append, args := #[o1, o2], argTypes := #[t, tx] }, ty, pos, af, g⟩ w K := by
  subst hki
  obtain ⟨ti, hti, e1, e2, e3⟩ := tin_info hz
  have hkb : k * bb ≤ 140737488355328 := Nat.le_trans (Nat.mul_le_mul_right _ (Nat.le_add_left k m)) hroom
  have hmk : m + k ≤ 140737488355328 := Nat.le_trans (Nat.le_mul_of_pos_right _ hb) hroom
  have hfit : Builtin.nextslicecap (m + k) c * ti.bytes ≤ 281474976710656 := by
    rw [e2]
    have := nextslicecap_le hg
    calc Builtin.nextslicecap (m + k) c * bb ≤ 2 * (m + k) * bb := Nat.mul_le_mul_right _ this
      _ = 2 * ((m + k) * bb) := by rw [Nat.mul_assoc]
      _ ≤ _ := by omega
  have hzr : ∀ c : Nat, (Builtin.zeroCells z.cells c).toList = List.flatten (List.replicate c zs) := by
    intro c
    rw [hzc]
    exact zeros_eq zs.toArray c
  have hold : (Builtin.firstCells ti.size m (.slice (some ⟨sb, off, none⟩) m c)).run P w.drew = .ok xs.toArray w.drew :=
    run_firstCells_some _ _ _ _ _ _ _ (by rw [hxs, e1]) fun j u hj => by rw [add_mk]; exact hsrc j u hj
  have hr := Go.Lib.run_append_grow_zeros (P := P) w t tx ty el ti z kq kn ht htx hti e3 (some ⟨sb, off, none⟩) m c xs hold k hk (by rw [e1]; exact hsz) hg (by omega) (by rw [e2]; omega) hfit
  have hge : m + k ≤ grownCap w (m + k) c el := grownCap_ge w (m + k) c el
  have ha := (h.drew).alloc ((xs.toArray ++ Builtin.zeroCells z.cells k ++ Builtin.zeroCells z.cells (grownCap w (m + k) c el - (m + k)))) el
  simp only [Array.toList_append, hzr] at ha
  refine .inl ⟨_, _, ?_, kk w.heap.size (grownCap w (m + k) c el) (w.drew.alloc (.cells (xs.toArray ++ Builtin.zeroCells z.cells k ++ Builtin.zeroCells z.cells (grownCap w (m + k) c el - (m + k))) el)) (Same.drew_alloc w _) hge ha⟩
  simp only [execOp, resolve, Sem.run_bind, Sem.run_pure, Result.andThen_ok, invoke, builtin]
  simp [h1, h2, hr]
/-- A row of ours, made by the call itself: none of it is a string's. -/
def clf (b : Nat) (T : TypeId) (cs : List Value) : SP := fun h => h b = some (.cells cs.toArray T (0, 0))
theorem clf_cl {b : Nat} {T : TypeId} {cs : List Value} {h : HP} (a : clf b T cs h) : cl b T cs h := ⟨(0, 0), a, fun i _ ⟨_, h2⟩ => by omega⟩
theorem Holds.clf_cl (h : Holds w l) (i : Nat) {b : Nat} {T : TypeId} {cs : List Value} (hi : l[i]? = some (clf b T cs)) : Holds w (l.set i (cl b T cs)) := h.map_at i hi fun _ a => Gw.clf_cl a
theorem T_overlaps {f : FuncId} {fn : Func} {x : Operand} {lo : List Operand} {at_ : Array TypeId} {tS tR el sz va vl vc b off bl bc T T' i j bb : Nat} {z : Option Value} {cs cs' : List Value} (hf : P.funcs[f]? = some fn) (hn : (fn.name == "runtime.NumGoroutine") = false) (hb : fn.body.isNone = true)
    (h1 : (Extern.findNext fn).isNone = true) (h2 : Extern.find fn = some (Extern.SlicesOverlaps.overlaps #[tS, tS] #[tR])) (hx : ev n e x = .func (.func f) #[] #[]) (ha : lo.map (ev n e) = [.slice (some ⟨va, 0, none⟩) vl vc, .slice (some ⟨b, off, none⟩) bl bc])
    (ht : P.underlying tS = some (.slice el)) (hz : tin P el = some (sz, bb, z)) (hne : va ≠ b) (h : Holds w l) (hi : l[i]? = some (clf va T cs)) (hj : l[j]? = some (cl b T' cs')) (hcs : cs' ≠ []) (kk : K (.bool false) w) :
    Stp P n e ⟨d, .call { callee := .value x, args := lo.toArray, argTypes := at_ }, ty, pos, af, g⟩ w K := by
  refine .inl ⟨_, w, ?_, kk⟩
  have hn' : ¬ fn.name = "runtime.NumGoroutine" := by simpa using hn
  have hb' : fn.body = none := by simpa using hb
  have h1' : Extern.findNext fn = none := by simpa using h1
  have hargs : lo.toArray.map (ev n e) = #[.slice (some ⟨va, 0, none⟩) vl vc, .slice (some ⟨b, off, none⟩) bl bc] := by simp [ha]
  simp only [execOp, resolve, hx, hargs, Deferred.ofValue, Sem.run_bind, Sem.run_pure, Result.andThen_ok, invoke]
  obtain ⟨h', s', eb⟩ := Sat.at i hi h
  have ea : w.heap[va]? = some (.cells cs.toArray T (0, 0)) := s' _ _ eb
  obtain ⟨fr, eb2, _⟩ := h.cl_block j hj
  have hc := Go.Lib.run_overlaps_apart (P := P) w tS tR el ht sz (fun w => run_sizeOf hz) ⟨va, 0, none⟩ ⟨b, off, none⟩ vl vc bl bc hne T T' cs.toArray.size cs'.toArray.size (by simp [World.shape?, ea]) (by simp [World.shape?, eb2])
    (by simpa using hcs) (by simp [World.frozen?, ea]) (by simp [World.frozen?, ea])
  simp [callFunc, hf, hn', hb', h1', h2, hc]
theorem eq_slnil {dd t el : Nat} {sa : Option Addr} {m c : Nat} (hu : P.underlying t = some (.slice el)) : (Op.equalIn (dd + 1) t (.slice sa m c) (.slice none 0 0)).run P w = .ok (decide (sa = none)) w := by
  cases sa <;> simp [Op.equalIn, run_underlying hu]
theorem x_nilEq {t u el : TypeId} {x y : Operand} {v : Value} {sa : Option Addr} {m c : Nat} (hx : ev n e x = v) (hv : v = .slice sa m c) (hy : ev n e y = .slice none 0 0) (hu : P.underlying t = some (.slice el)) :
    (execOp (ev n e) ⟨d, .binOp .eql t x y u, ty, pos, af, g⟩).run P w = .ok (.value (.bool (decide (sa = none)))) w := by
  subst hv
  simp only [execOp]; rw [hx, hy]
  refine run_v _ ?_
  have h1 : (eqGuard .eql t x y (.slice sa m c) (.slice none 0 0)).run P w = .ok () w := by simp [eqGuard]
  have h2 : (Op.equal t (.slice sa m c) (.slice none 0 0)).run P w = .ok (decide (sa = none)) w := eq_slnil (dd := 9999) hu
  simp only [Sem.run_bind, h1, Result.andThen_ok, binOp]
  simp [h2]
end
end Go.Proofs.Ytlnihndjepjagaa.Gw
