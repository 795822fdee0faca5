/- The own words of these proofs for a walk: calls by an interface's method, copy. -/
import Derived.Test.YtlnihndjepjagaaGwM
import Derived.Laws.IdiomCopy
set_option linter.unusedVariables false
set_option linter.unusedSimpArgs false
namespace Go.Proofs.Ytlnihndjepjagaa.Gw
open Go Go.RowKit
section
variable {P : Program} {n : Nat} {e : Env} {w : World} {K : Value → World → Prop} {Q : Exit → Act → World → Prop} {ops : Array Oper} {rest : List Oper} {ds : List Deferred}
  {d : Option Nat} {ty : TypeId} {pos : String} {af : Array Edge} {g : Option (Nat × Bool)} {l : List SP}
theorem T_invokeW {f : FuncId} {x : Operand} {lo : List Operand} {t : TypeId} {v recv : Value} {nm : String} {al : List Value} {at_ : Array TypeId} (hx : ev n e x = .iface t v)
    (hm : ∀ w, (method (P.types.size + Made.depth) t v nm).run P w = .ok (f, recv) w) (ha : recv :: lo.map (ev n e) = al) (hc : callable P f = true)
    (h : Calls P f al.toArray w fun r w' => ∃ v, r = .returned v ∧ K v w') : Stp P n e ⟨d, .call { callee := .invoke x nm, args := lo.toArray, argTypes := at_ }, ty, pos, af, g⟩ w K := by
  subst ha
  refine .inr (.inr ⟨f, _, w, ?_, h⟩)
  simp only [execOp, resolve, hx, Sem.run_bind, Sem.run_pure, Result.andThen_ok, invoke]
  simp [callMethod, hm, run_callFunc hc, List.take_of_length_le]
theorem T_invoke {f : FuncId} {x : Operand} {lo : List Operand} {t : TypeId} {v recv : Value} {nm : String} {al : List Value} {at_ : Array TypeId} {R : HP} {pre F : List SP} {Qc : Value → List SP → Prop} (hx : ev n e x = .iface t v)
    (hm : ∀ w, (method (P.types.size + Made.depth) t v nm).run P w = .ok (f, recv) w) (ha : recv :: lo.map (ev n e) = al) (hc : callable P f = true)
    (ht : Tri P f al.toArray R pre Qc) (h : Holds w (ro R :: (pre ++ F)))
    (k : ∀ v post w', Qc v post → Same w w' → Holds w' (ro R :: (post ++ F)) → K v w') : Stp P n e ⟨d, .call { callee := .invoke x nm, args := lo.toArray, argTypes := at_ }, ty, pos, af, g⟩ w K :=
  T_invokeW hx hm ha hc ((ht w F h).mono fun r w' ⟨v, post, er, q, s, hh⟩ => ⟨v, er, k v post w' q s hh⟩)
/-- A piece of a slice. -/
def slc : Value → Nat → Nat → Nat → Value
  | .slice a _ c, l, h, sz => .slice (if c = l then a else a.map (·.add (l * sz))) (h - l) (c - l)
  | v, _, _, _ => v
theorem RS.slc {R : HP} {sz m l h : Nat} {v : Value} {xs : List Value} (hr : RS R sz v m xs) (h1 : l ≤ h) (h2 : h ≤ m) : RS R sz (Gw.slc v l h sz) (h - l) ((xs.drop (l * sz)).take ((h - l) * sz)) := by
  obtain ⟨e1, a, cap, rfl, e2, e3⟩ := hr
  have hm : h * sz ≤ m * sz := Nat.mul_le_mul_right _ h2
  have hs : (h - l) * sz = h * sz - l * sz := Nat.sub_mul ..
  refine ⟨by rw [List.length_take, List.length_drop, e1]; omega, _, _, rfl, by omega, fun hp => ?_⟩
  obtain ⟨b, off, rfl, rc⟩ := e3 (by omega)
  refine ⟨b, off + l * sz, ?_, (rc.drop _).take _⟩
  rw [if_neg (by omega)]
  simp [add_mk]
theorem bytesV_sub (ns : List Int) (l k : Nat) : ((bytesV ns).drop (l * 1)).take (k * 1) = bytesV ((ns.drop l).take k) := by simp [bytesV]
theorem RS.slcB {R : HP} {m l h : Nat} {v : Value} {ns : List Int} (hr : RS R 1 v m (bytesV ns)) (h1 : l ≤ h) (h2 : h ≤ m) : RS R 1 (Gw.slc v l h 1) (h - l) (bytesV ((ns.drop l).take (h - l))) := by
  have := hr.slc h1 h2
  rwa [bytesV_sub] at this
theorem x_sliceRS {R : HP} {t el : TypeId} {x : Operand} {lo hi : Option Operand} {v : Value} {sz sz' m bb l h : Nat} {xs : List Value} {z : Option Value} (hx : ev n e x = v) (hr : RS R sz' v m xs) (hu : P.underlying t = some (.slice el))
    (hz : tin P el = some (sz, bb, z)) (hm : h ≤ m) (hh : (match hi.map (ev n e) with | none => h = m | some v => ∃ k i, v = .int k i ∧ 0 ≤ i ∧ i ≤ m ∧ i.toNat = h))
    (hl : (match lo.map (ev n e) with | none => l = 0 | some v => ∃ k i, v = .int k i ∧ 0 ≤ i ∧ i ≤ h ∧ i.toNat = l)) :
    (execOp (ev n e) ⟨d, .slice t x lo hi none, ty, pos, af, g⟩).run P w = .ok (.value (Gw.slc v l h sz)) w := by
  obtain ⟨a, cap, rfl, hc⟩ := hr.len
  refine x_slice hx hu hz ?_ hl rfl
  cases hi with
  | none => exact hh
  | some o =>
    obtain ⟨k, i, e1, e2, e3, e4⟩ := hh
    exact ⟨k, i, e1, e2, by omega, e4⟩
theorem one_bytes (ns : List Int) : ∀ u ∈ bytesV ns, u.oneCell' = true := by
  intro u hu
  simp only [bytesV, List.mem_map] at hu
  obtain ⟨a, _, rfl⟩ := hu
  rfl
theorem bytesV_len (ns : List Int) : (bytesV ns).length = ns.length := by simp [bytesV]
theorem cl_RSpre {b T k cap : Nat} {xs ys : List Value} {h R : HP} (a : cl b T (xs ++ ys) h) (hs : Sub h R) (hl : xs.length = k) (hc : k ≤ cap) : RS R 1 (.slice (some ⟨b, 0, none⟩) k cap) k xs := by
  subst hl
  refine ⟨by omega, _, _, rfl, hc, fun _ => ⟨b, 0, rfl, ?_⟩⟩
  have := (cl_RC a hs).take xs.length
  rwa [List.take_left] at this
theorem wrap_nat {a : Int} {x : Nat} (ha : a = x) (hx : x < 9223372036854775808) : IntKind.wrap .i64 a = a := wrap_i64 (by omega) (by omega)
theorem ib_remN {a b : Int} {x y r : Nat} (ha : a = x) (hb : b = y) (hy : 0 < y) (hx : x < 9223372036854775808) (hr : x % y = r) : ibin .rem .i64 a b = some (.int .i64 r) := by
  subst ha; subst hb; subst hr
  have h0 : ((y : Int) = 0) = False := by simp; omega
  have e : (x : Int).tmod y = ((x % y : Nat) : Int) := rfl
  simp only [ibin, h0, if_false, e]
theorem ib_quoN {a b : Int} {x y r : Nat} (ha : a = x) (hb : b = y) (hy : 0 < y) (hx : x < 9223372036854775808) (hr : x / y = r) : ibin .quo .i64 a b = some (.int .i64 r) := by
  subst ha; subst hb; subst hr
  have h0 : ((y : Int) = 0) = False := by simp; omega
  have e : (x : Int).tdiv y = ((x / y : Nat) : Int) := rfl
  have hlt : x / y < 9223372036854775808 := Nat.lt_of_le_of_lt (Nat.div_le_self _ _) hx
  simp only [ibin, h0, if_false, e]
  rw [wrap_nat rfl hlt]
theorem ib_addN {a b : Int} {x y r : Nat} (ha : a = x) (hb : b = y) (hx : x + y < 9223372036854775808) (hr : x + y = r) : ibin .add .i64 a b = some (.int .i64 r) := by
  subst ha; subst hb; subst hr
  have e : (x : Int) + (y : Int) = ((x + y : Nat) : Int) := by omega
  simp only [ibin]
  rw [e, wrap_nat rfl (by omega)]
theorem ib_subN {a b : Int} {x y r : Nat} (ha : a = x) (hb : b = y) (hy : y ≤ x) (hx : x < 9223372036854775808) (hr : x - y = r) : ibin .sub .i64 a b = some (.int .i64 r) := by
  subst ha; subst hb; subst hr
  have e : (x : Int) - (y : Int) = ((x - y : Nat) : Int) := by omega
  simp only [ibin]
  rw [e, wrap_nat rfl (by omega)]
theorem RS.blen {R : HP} {m : Nat} {v : Value} {ns : List Int} (h : RS R 1 v m (bytesV ns)) : ns.length = m := by have := h.1; rw [bytesV_len] at this; omega
theorem ib_mulN {a b : Int} {x y r : Nat} (ha : a = x) (hb : b = y) (hr : x * y = r) (hx : r < 9223372036854775808) : ibin .mul .i64 a b = some (.int .i64 r) := by
  subst ha; subst hb; subst hr
  simp only [ibin]
  have e : (x : Int) * (y : Int) = ((x * y : Nat) : Int) := (Int.natCast_mul x y).symm
  rw [e, wrap_nat rfl hx]
theorem T_copy {dT sT el T b off dLen dCap k bb : Nat} {z : Option Value} {o1 o2 : Operand} {x : Value} {ys cs : List Value} {Rs : HP} (h1 : ev n e o1 = .slice (some ⟨b, off, none⟩) dLen dCap) (h2 : ev n e o2 = x)
    (hu : P.underlying dT = some (.slice el)) (hz : tin P el = some (1, bb, z)) (h : Holds w l) (i : Nat) (hi : l[i]? = some (cl b T cs)) (hx : RS Rs 1 x k ys) (hs : Sub Rs (hp w)) (hk : k ≤ dLen) (hoff : off + k ≤ cs.length)
    (one : ∀ u ∈ ys, u.oneCell' = true) (kk : ∀ w', Same w w' → Holds w' (l.set i (cl b T (cs.take off ++ ys ++ cs.drop (off + ys.length)))) → K (.int .i64 k) w') :
    Stp P n e ⟨d, .call { callee := .builtin .copy, args := #[o1, o2], argTypes := #[dT, sT] }, ty, pos, af, g⟩ w K := by
  have hys : ys.length = k := by have := hx.1; omega
  have hsz : (P.info? el).map (·.size) = some 1 := by
    obtain ⟨ti, hti, e1, _⟩ := tin_info hz
    rw [hti]; simp [e1]
  have hmin : Nat.min k dLen = k := Nat.min_eq_left hk
  obtain ⟨a, sCap, rfl, _⟩ := hx.len
  have hrun : ∀ w', (Builtin.copy_ #[dT, sT] ty #[.slice (some ⟨b, off, none⟩) dLen dCap, .slice a k sCap]).run P w = .ok (goInt k) w' → (execOp (ev n e) ⟨d, .call { callee := .builtin .copy, args := #[o1, o2], argTypes := #[dT, sT] }, ty, pos, af, g⟩).run P w = .ok (.value (.int .i64 k)) w' := by
    intro w' hr
    simp only [execOp, resolve, Sem.run_bind, Sem.run_pure, Result.andThen_ok, invoke, builtin]
    simp [h1, h2, hr, goInt]
  by_cases hk0 : k = 0
  · subst hk0
    have : ys = [] := by simpa using hys
    subst this
    refine .inl ⟨_, w, hrun w ?_, kk w (Same.refl w) ?_⟩
    · exact run_copy_none w dT sT ty el _ _ _ _ _ _ hu hsz hmin
    · have e1 : cs.take off ++ [] ++ cs.drop (off + ([] : List Value).length) = cs := by simp
      rw [e1]
      have e2 : l.set i (cl b T cs) = l := by
        obtain ⟨hl, he⟩ := List.getElem?_eq_some_iff.1 hi
        rw [← he]; simp
      rw [e2]; exact h
  · obtain ⟨b', o', cap', e1, _, hrc⟩ := hx.at_ (by omega)
    injection e1 with e1 e2 e3
    subst e1
    have hr := run_copy_cells (P := P) w dT sT ty el b off dLen dCap ⟨b', o', none⟩ k sCap ys hu hsz (by rw [hys]; exact hmin.symm) (fun j v hj => by rw [add_mk]; exact hrc.cell hs hj)
      (fun j hj => by rw [h.cl_cell i hi (List.getElem?_eq_getElem (by omega : off + j < cs.length))]; rfl) (fun j hj => h.cl_frozen i hi (by omega)) one
    rw [hys] at hr
    refine .inl ⟨_, _, hrun _ hr, kk _ (by rw [setCells_eq]; exact Same.setCells b ys _ w) ?_⟩
    rw [setCells_eq]
    exact Holds.setCells i ys off w l cs h hi (by omega)
end
end Go.Proofs.Ytlnihndjepjagaa.Gw
