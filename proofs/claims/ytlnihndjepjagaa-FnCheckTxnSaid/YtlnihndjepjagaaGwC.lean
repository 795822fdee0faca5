/- The own words of these proofs for a walk: operations on memory, code, calls. -/
import Derived.Test.YtlnihndjepjagaaGwB
set_option linter.unusedVariables false
set_option linter.unusedSimpArgs false
namespace Go.Proofs.Ytlnihndjepjagaa.Gw
open Go Go.RowKit
section
variable {P : Program} {n : Nat} {e : Env} {w : World} {K : Value → World → Prop} {Q : Exit → Act → World → Prop} {ops : Array Oper} {rest : List Oper} {ds : List Deferred}
  {d : Option Nat} {ty : TypeId} {pos : String} {af : Array Edge} {g : Option (Nat × Bool)} {l : List SP}

/-! ### Loads and stores -/
theorem add_mk (b o j : Nat) : (Addr.mk b o none).add j = ⟨b, o + j, none⟩ := by
  unfold Addr.add
  split
  · rename_i h; subst h; rfl
  · rfl
theorem run_loadAt1 {t : TypeId} {u : TypeDesc} {p : Addr} {v : Value} (hu : P.underlying t = some u) (hd : aggD u = false) (hc : w.cell? p = some v) :
    (Instr.loadAt t (.pointer (some p))).run P w = .ok v w := by
  simp only [Instr.loadAt, Instr.sureAddr, loadVar, Sem.run_bind, Sem.run_pure, Result.andThen_ok, run_isAgg hu, hd, Bool.false_eq_true, if_false, run_load, hc]
theorem run_loadAtN {t s b : Nat} {z : Option Value} {u : TypeDesc} {p : Addr} {vs : List Value} (hu : P.underlying t = some u) (hd : aggD u = true) (hz : tin P t = some (s, b, z)) (hl : vs.length = s)
    (hc : ∀ j v, vs[j]? = some v → w.cell? (p.add j) = some v) : (Instr.loadAt t (.pointer (some p))).run P w = .ok (.agg vs.toArray) w := by
  subst hl
  simp only [Instr.loadAt, Instr.sureAddr, loadVar, Sem.run_bind, Sem.run_pure, Result.andThen_ok, run_isAgg hu, hd, if_true, run_sizeOf hz, run_loadCells_list w p vs hc]
theorem T_load1 {t : TypeId} {u : TypeDesc} {x : Operand} {p : Addr} {v : Value} (hx : ev n e x = .pointer (some p)) (hu : P.underlying t = some u) (hd : aggD u = false) (hc : w.cell? p = some v) (k : K v w) :
    Stp P n e ⟨d, .load t x, ty, pos, af, g⟩ w K := T_val (by simp only [execOp]; rw [hx]; exact run_v _ (run_loadAt1 hu hd hc)) k
theorem T_loadN {t s b : Nat} {z : Option Value} {u : TypeDesc} {x : Operand} {p : Addr} {vs : List Value} (hx : ev n e x = .pointer (some p)) (hu : P.underlying t = some u) (hd : aggD u = true)
    (hz : tin P t = some (s, b, z)) (hl : vs.length = s) (hc : ∀ j v, vs[j]? = some v → w.cell? (p.add j) = some v) (k : K (.agg vs.toArray) w) :
    Stp P n e ⟨d, .load t x, ty, pos, af, g⟩ w K := T_val (by simp only [execOp]; rw [hx]; exact run_v _ (run_loadAtN hu hd hz hl hc)) k
theorem Holds.cl_cells (h : Holds w l) (i : Nat) {b : Nat} {T : TypeId} {cs : List Value} (hi : l[i]? = some (cl b T cs)) (off : Nat) {vs : List Value} (hv : (cs.drop off).take vs.length = vs) :
    ∀ j v, vs[j]? = some v → w.cell? ((Addr.mk b off none).add j) = some v := by
  intro j v hj
  rw [add_mk]
  refine h.cl_cell i hi ?_
  rw [← hv] at hj
  rw [List.getElem?_take] at hj
  split at hj
  · rw [List.getElem?_drop] at hj; exact hj
  · cases hj
theorem run_storeAt1 {t s b : Nat} {z : Option Value} {p : Addr} {v u : Value} (hz : tin P t = some (1, b, z)) (hv : v.oneCell' = true) (hc : w.cell? p = some u) (hf : w.frozen? p = false) :
    (Instr.storeAt t (.pointer (some p)) v).run P w = .ok () (w.setCell p v) := by
  have hcs : v.cells = #[v] := by cases v <;> first | rfl | simp [Value.oneCell'] at hv
  have ha : p.add 0 = p := rfl
  simp only [Instr.storeAt, Instr.sureAddr, storeVar, Sem.run_bind, Sem.run_pure, Result.andThen_ok, run_sizeOf hz, hcs, storeCells, ha, run_store P w p v _ hv, hc, hf]
  simp [storeCells, run_store P w p v _ hv, hc, hf, ha]
def setCells (w : World) (b off : Nat) : List Value → World
  | [] => w
  | v :: r => setCells (w.setCell ⟨b, off, none⟩ v) b (off + 1) r
theorem Same.setCells (b : Nat) : ∀ (vs : List Value) (off : Nat) (w : World), Same w (setCells w b off vs)
  | [], _, w => Same.refl w
  | v :: r, off, w => (Same.setCell w _ v).trans (Same.setCells b r (off + 1) _)
theorem run_storeCells {b : Nat} : ∀ (vs : List Value) (off j : Nat) (w : World), (∀ v ∈ vs, v.oneCell' = true) →
    (∀ k, k < vs.length → ∃ u, w.cell? ⟨b, off + j + k, none⟩ = some u) → (∀ k, k < vs.length → w.frozen? ⟨b, off + j + k, none⟩ = false) →
    (storeCells ⟨b, off, none⟩ vs j).run P w = .ok () (setCells w b (off + j) vs)
  | [], off, j, w, _, _, _ => rfl
  | v :: r, off, j, w, h1, h2, h3 => by
    obtain ⟨u, hu⟩ := h2 0 (by simp)
    have hf := h3 0 (by simp)
    simp only [Nat.add_zero] at hu hf
    simp only [storeCells, Sem.run_bind, add_mk, run_store P w _ v _ (h1 v (by simp)), hu, hf]
    have ih := run_storeCells r off (j + 1) (w.setCell ⟨b, off + j, none⟩ v) (fun x hx => h1 x (by simp [hx]))
      (fun k hk => by
        obtain ⟨y, hy⟩ := h2 (k + 1) (by simp; omega)
        refine ⟨y, ?_⟩
        rw [World.cell?_setCell_other w _ _ v (by simp)]
        rw [show off + (j + 1) + k = off + j + (k + 1) by omega]; exact hy)
      (fun k hk => by
        have := h3 (k + 1) (by simp; omega)
        rw [World.frozen?_setCell]
        rw [show off + (j + 1) + k = off + j + (k + 1) by omega]; exact this)
    simp only [Bool.false_eq_true, if_false, Result.andThen_ok]
    rw [ih]
    rfl
theorem Holds.setCells (i : Nat) {b : Nat} {T : TypeId} : ∀ (vs : List Value) (off : Nat) (w : World) (l : List SP) (cs : List Value), Holds w l → l[i]? = some (cl b T cs) → off + vs.length ≤ cs.length →
    Holds (Gw.setCells w b off vs) (l.set i (cl b T (cs.take off ++ vs ++ cs.drop (off + vs.length))))
  | [], off, w, l, cs, h, hi, _ => by
    have : cs.take off ++ [] ++ cs.drop (off + 0) = cs := by simp
    simp only [List.length_nil]
    rw [this]
    have : l.set i (cl b T cs) = l := by
      obtain ⟨hl, he⟩ := List.getElem?_eq_some_iff.1 hi
      rw [← he]; simp
    rw [this]; exact h
  | v :: r, off, w, l, cs, h, hi, hlen => by
    have hl : i < l.length := (List.getElem?_eq_some_iff.1 hi).1
    have h1 := h.setCell i hi off v
    have h2 := Holds.setCells i (b := b) (T := T) r (off + 1) _ _ (cs.set off v) h1 (by simp [hl]) (by simp at hlen ⊢; omega)
    simp only [List.length_cons] at hlen ⊢
    rw [List.set_set] at h2
    have e : (cs.set off v).take (off + 1) ++ r ++ (cs.set off v).drop (off + 1 + r.length) = cs.take off ++ v :: r ++ cs.drop (off + (r.length + 1)) := by
      have e1 : (cs.set off v).take (off + 1) = cs.take off ++ [v] := by
        rw [List.take_succ_eq_append_getElem (by simp; omega)]
        simp [List.take_set_of_le]
      rw [e1, List.drop_set_of_lt (by omega)]
      simp [Nat.add_comm 1 r.length, Nat.add_assoc]
    rw [e] at h2
    exact h2
/-- A store of one cell into a block that is ours. -/
theorem T_store1 {t b bb T : Nat} {z : Option Value} {x y : Operand} {off : Nat} {v : Value} {cs : List Value} (hx : ev n e x = .pointer (some ⟨b, off, none⟩)) (hy : ev n e y = v) (hz : tin P t = some (1, bb, z))
    (hv : v.oneCell' = true) (h : Holds w l) (i : Nat) (hi : l[i]? = some (cl b T cs)) (hk : off < cs.length) (k : ∀ w', Same w w' → Holds w' (l.set i (cl b T (cs.set off v))) → K undef w') :
    Stp P n e ⟨d, .store t x y, ty, pos, af, g⟩ w K := by
  refine .inr (.inl ⟨w.setCell ⟨b, off, none⟩ v, ?_, k _ (Same.setCell w _ v) (h.setCell i hi off v)⟩)
  simp only [execOp]
  rw [hx, hy]
  simp only [Sem.run_bind, run_storeAt1 (s := 1) hz hv (h.cl_cell i hi (List.getElem?_eq_getElem hk)) (h.cl_frozen i hi hk), Result.andThen_ok, Sem.run_pure]
theorem T_storeN {t s b bb T : Nat} {z : Option Value} {x y : Operand} {off : Nat} {vs cs : List Value} (hx : ev n e x = .pointer (some ⟨b, off, none⟩)) (hy : ev n e y = .agg vs.toArray) (hz : tin P t = some (s, bb, z))
    (hs : vs.length = s) (hv : ∀ v ∈ vs, v.oneCell' = true) (h : Holds w l) (i : Nat) (hi : l[i]? = some (cl b T cs)) (hk : off + vs.length ≤ cs.length)
    (k : ∀ w', Same w w' → Holds w' (l.set i (cl b T (cs.take off ++ vs ++ cs.drop (off + vs.length)))) → K undef w') :
    Stp P n e ⟨d, .store t x y, ty, pos, af, g⟩ w K := by
  subst hs
  refine .inr (.inl ⟨setCells w b off vs, ?_, k _ (Same.setCells b vs off w) (Holds.setCells i vs off w l cs h hi hk)⟩)
  simp only [execOp]
  rw [hx, hy]
  have hc : (Value.agg vs.toArray).cells = vs.toArray := rfl
  have hr := run_storeCells (P := P) (b := b) vs off 0 w hv (fun k hk' => ⟨_, h.cl_cell i hi (List.getElem?_eq_getElem (by omega : off + 0 + k < cs.length))⟩) (fun k hk' => h.cl_frozen i hi (by omega))
  simp only [Nat.add_zero] at hr
  simp only [Sem.run_bind, Instr.storeAt, Instr.sureAddr, storeVar, Sem.run_pure, Result.andThen_ok, run_sizeOf hz, hc, List.size_toArray, ne_eq, not_true, if_false]
  simp [hr]

/-! ### New blocks -/
theorem T_new {o : Oper} {obj : Obj} {f : Nat → Value} (hr : (execOp (ev n e) o).run P w = .ok (.value (f w.heap.size)) (w.alloc obj)) {A : Nat → SP} (hA : ∀ l, Holds w l → Holds (w.alloc obj) (A w.heap.size :: l))
    (h : Holds w l) (k : ∀ b w', Same w w' → Holds w' (A b :: l) → K (f b) w') : Stp P n e o w K :=
  .inl ⟨_, _, hr, k _ _ (Same.alloc w obj) (hA l h)⟩
theorem T_box {t : Nat} {x : Operand} {v : Value} (hx : ev n e x = v) (h : Holds w l) (k : ∀ b w', Same w w' → Holds w' (cl b t v.cells.toList :: l) → K (.pointer (some ⟨b, 0, none⟩)) w') :
    Stp P n e ⟨d, .box t x, ty, pos, af, g⟩ w K := by
  refine T_new (obj := .cells v.cells t) (f := fun b => .pointer (some ⟨b, 0, none⟩)) ?_ (fun l h => h.alloc _ _) h k
  simp only [execOp]; rw [hx]; rfl
theorem T_alloc {t s b : Nat} {v : Value} (hz : tin P t = some (s, b, some v)) (h : Holds w l) (k : ∀ b w', Same w w' → Holds w' (cl b t v.cells.toList :: l) → K (.pointer (some ⟨b, 0, none⟩)) w') :
    Stp P n e ⟨d, .alloc t, ty, pos, af, g⟩ w K := by
  refine T_new (obj := .cells v.cells t) (f := fun b => .pointer (some ⟨b, 0, none⟩)) ?_ (fun l h => h.alloc _ _) h k
  simp only [execOp, Instr.alloc]
  refine run_v _ ?_
  simp only [Sem.run_bind, run_zeroValue hz, Result.andThen_ok]
  rfl

/-! ### Places -/
theorem T_fieldAddr {s : TypeId} {x : Operand} {f : Nat} {fs : Array Field} {fd : Field} {sz bb : Nat} {z : Option Value} {b off : Nat} {p : Addr} (hx : ev n e x = .pointer (some ⟨b, off, none⟩))
    (hu : P.underlying s = some (.struct fs)) (hf : fs[f]? = some fd) (hz : tin P fd.type = some (sz + 1, bb, z)) (hp : (⟨b, off + fd.offset, none⟩ : Addr) = p) (k : K (.pointer (some p)) w) :
    Stp P n e ⟨d, .fieldAddr s x f, ty, pos, af, g⟩ w K := by
  subst hp
  refine T_val ?_ k
  simp only [execOp]
  rw [hx]
  refine run_v _ ?_
  simp only [Instr.fieldAt, Sem.run_bind, run_underlying hu, Result.andThen_ok, hf, Instr.sureAddr, Sem.run_pure, fieldPlace, run_sizeOf hz]
  simp [add_mk]
theorem run_part1 {t : TypeId} {u : TypeDesc} {cs : Array Value} {off : Nat} {v : Value} (hu : P.underlying t = some u) (hd : aggD u = false) (hv : cs[off]? = some v) : (part t cs off).run P w = .ok v w := by
  simp [part, run_isAgg hu, hd, hv]
theorem run_partN {t s b : Nat} {z : Option Value} {u : TypeDesc} {cs : Array Value} {off : Nat} (hu : P.underlying t = some u) (hd : aggD u = true) (hz : tin P t = some (s, b, z)) :
    (part t cs off).run P w = .ok (.agg (cs.extract off (off + s))) w := by
  simp [part, run_isAgg hu, hd, run_sizeOf hz]
theorem T_field {s : TypeId} {x : Operand} {f : Nat} {fs : Array Field} {fd : Field} {cs : Array Value} {v : Value} (hx : ev n e x = .agg cs)
    (hu : P.underlying s = some (.struct fs)) (hf : fs[f]? = some fd) (hp : (part fd.type cs fd.offset).run P w = .ok v w) (k : K v w) :
    Stp P n e ⟨d, .field s x f, ty, pos, af, g⟩ w K := by
  refine T_val ?_ k
  simp only [execOp]
  rw [hx]
  refine run_v _ ?_
  simp [Instr.field, run_underlying hu, hf, asAgg, hp]
theorem T_nilCheck {x : Operand} {p : Addr} (hx : ev n e x = .pointer (some p)) (k : K (.pointer (some p)) w) : Stp P n e ⟨d, .nilCheck x, ty, pos, af, g⟩ w K :=
  T_val (by simp only [execOp]; rw [hx]; rfl) k
/-- The address of element i of a slice. -/
theorem T_indexAddr {t el : TypeId} {x y : Operand} {b off len cap i sz bb : Nat} {z : Option Value} {k' : IntKind} {p : Addr} {ii : Int} (hx : ev n e x = .slice (some ⟨b, off, none⟩) len cap) (hy : ev n e y = .int k' ii)
    (hu : P.underlying t = some (.slice el)) (hz : tin P el = some (sz, bb, z)) (h0 : 0 ≤ ii) (hi : ii < len) (hn : ii.toNat = i) (hp : (⟨b, off + i * sz, none⟩ : Addr) = p) (k : K (.pointer (some p)) w) :
    Stp P n e ⟨d, .indexAddr t x y, ty, pos, af, g⟩ w K := by
  subst hp; subst hn
  refine T_val ?_ k
  simp only [execOp]
  rw [hx, hy]
  refine run_v _ ?_
  simp [Instr.indexAt, asIntOf, run_underlying hu, h0, hi, run_sizeOf hz, add_mk]
theorem run_slice_slice {t el : TypeId} {a : Option Addr} {len cap sz bb : Nat} {z : Option Value} {lo hi : Option Value} {l h : Nat} (hu : P.underlying t = some (.slice el)) (hz : tin P el = some (sz, bb, z))
    (hb : (Instr.sliceBounds true len cap lo hi none).run P w = .ok (l, h, cap) w) :
    (Instr.sliceAt t (.slice a len cap) lo hi none).run P w = .ok (.slice (if cap = l then a else a.map (·.add (l * sz))) (h - l) (cap - l)) w := by
  simp [Instr.sliceAt, run_underlying hu, Instr.slice, hb, run_sizeOf hz]
theorem run_bounds {isS : Bool} {len cap : Nat} {lo hi : Option Value} {l h : Nat} (hh : (match hi with | none => h = len | some v => ∃ k i, v = .int k i ∧ 0 ≤ i ∧ i ≤ cap ∧ i.toNat = h))
    (hl : (match lo with | none => l = 0 | some v => ∃ k i, v = .int k i ∧ 0 ≤ i ∧ i ≤ h ∧ i.toNat = l)) : (Instr.sliceBounds isS len cap lo hi none).run P w = .ok (l, h, cap) w := by
  unfold Instr.sliceBounds
  cases hi with
  | none =>
    dsimp only at hh; subst hh
    cases lo with
    | none => dsimp only at hl; subst hl; rfl
    | some v =>
      obtain ⟨k, i, rfl, h0, h1, rfl⟩ := hl
      simp [Instr.sliceBound, asIntOf, h0, h1]
  | some u =>
    obtain ⟨k', i', rfl, h0', h1', rfl⟩ := hh
    cases lo with
    | none => dsimp only at hl; subst hl; simp [Instr.sliceBound, asIntOf, h0', h1']
    | some v =>
      obtain ⟨k, i, rfl, h0, h1, rfl⟩ := hl
      have h2 : i ≤ max i' 0 := by omega
      simp [Instr.sliceBound, asIntOf, h0, h0', h1', h2]
theorem T_slice {t el : TypeId} {x : Operand} {lo hi : Option Operand} {a : Option Addr} {len cap sz bb l h : Nat} {z : Option Value} {v : Value} (hx : ev n e x = .slice a len cap) (hu : P.underlying t = some (.slice el))
    (hz : tin P el = some (sz, bb, z)) (hh : (match hi.map (ev n e) with | none => h = len | some v => ∃ k i, v = .int k i ∧ 0 ≤ i ∧ i ≤ cap ∧ i.toNat = h))
    (hl : (match lo.map (ev n e) with | none => l = 0 | some v => ∃ k i, v = .int k i ∧ 0 ≤ i ∧ i ≤ h ∧ i.toNat = l)) (hv : Value.slice (if cap = l then a else a.map (·.add (l * sz))) (h - l) (cap - l) = v) (k : K v w) :
    Stp P n e ⟨d, .slice t x lo hi none, ty, pos, af, g⟩ w K := by
  subst hv
  refine T_val ?_ k
  simp only [execOp]
  rw [hx]
  refine run_v _ ?_
  exact run_slice_slice hu hz (run_bounds hh hl)
theorem zeros_eq (zc : Array Value) (c : Nat) : ((Array.range (c * zc.size)).map (zc[· % zc.size]!)).toList = (List.replicate c zc.toList).flatten := by
  simp only [Array.toList_map, Array.toList_range]
  induction c with
  | zero => simp
  | succ c ih =>
    rw [Nat.add_mul, Nat.one_mul, List.range_add, List.map_append, ih, List.replicate_succ', List.flatten_append]
    congr 1
    simp only [List.map_map, List.flatten_cons, List.flatten_nil, List.append_nil]
    apply List.ext_getElem
    · simp
    · intro i h1 h2
      simp only [List.length_map, List.length_range] at h1
      simp [Nat.add_mod, Nat.mod_eq_of_lt h1, h1]
theorem T_makeSlice {t el : TypeId} {x y : Operand} {len cap sz bb : Nat} {z : Value} {k1 k2 : IntKind} {il ic : Int} (hx : ev n e x = .int k1 il) (hy : ev n e y = .int k2 ic) (hu : P.underlying t = some (.slice el))
    (hz : tin P el = some (sz, bb, some z)) (hzs : z.cells.size = sz) (hil : il = len) (hic : ic = cap) (hle : len ≤ cap) (hb : bb * cap ≤ 2 ^ 48) (hc : cap ≤ 2 ^ 48) (h : Holds w l)
    (k : ∀ b w', Same w w' → Holds w' (cl b el ((List.replicate cap z.cells.toList).flatten) :: l) → K (.slice (some ⟨b, 0, none⟩) len cap) w') : Stp P n e ⟨d, .makeSlice t x y, ty, pos, af, g⟩ w K := by
  subst hil; subst hic
  have hcells : ((Array.range (cap * sz)).map (z.cells[· % z.cells.size]!)).toList = (List.replicate cap z.cells.toList).flatten := by
    subst hzs
    exact zeros_eq z.cells cap
  refine T_new (obj := .cells ((Array.range (cap * sz)).map (z.cells[· % z.cells.size]!)) el) (f := fun b => .slice (some ⟨b, 0, none⟩) len cap) (A := fun b => cl b el ((List.replicate cap z.cells.toList).flatten)) ?_
    (fun l h => by have := h.alloc ((Array.range (cap * sz)).map (z.cells[· % z.cells.size]!)) el; rw [hcells] at this; exact this) h k
  simp only [execOp]
  rw [hx, hy]
  refine run_v _ ?_
  obtain ⟨i, hi, h1, h2, h3⟩ := tin_info hz
  subst h2
  have w1 : IntKind.i64.wrap (len : Int) = len := IntWalk.i64_in _ (by omega)
  have w2 : IntKind.i64.wrap (cap : Int) = cap := IntWalk.i64_in _ (by omega)
  have c1 : ¬ ((i.bytes : Int) * cap > 2 ^ 48) := by
    have : ((i.bytes * cap : Nat) : Int) ≤ ((2 ^ 48 : Nat) : Int) := Int.ofNat_le.2 hb
    simpa using this
  have c2 : ¬ ((cap : Int) < 0) := by omega
  have c3 : ¬ ((len : Int) < 0) := by omega
  have c4 : ¬ ((len : Int) > cap) := by omega
  simp only [Instr.makeSlice, Sem.run_bind, run_underlying hu, Result.andThen_ok, asInt, asIntOf, Sem.run_pure, run_typeInfo hi, w1, w2, c1, c2, c3, c4, decide_false, Bool.or_false, Bool.false_eq_true, if_false,
    run_askRoom, run_sizeOf hz]
  simp only [Int.toNat_natCast]
  by_cases h0 : cap * sz = 0
  · have e0 : ∀ f : Nat → Value, (Array.range 0).map f = #[] := fun f => by simp
    simp [h0, newRow, e0]
  · simp [h0, run_zeroValue hz, newRow]
theorem T_makeSlice1 {t el : TypeId} {x y : Operand} {len cap bb : Nat} {z : Value} {k1 k2 : IntKind} {il ic : Int} (hx : ev n e x = .int k1 il) (hy : ev n e y = .int k2 ic) (hu : P.underlying t = some (.slice el))
    (hz : tin P el = some (1, bb, some z)) (hv : z.oneCell' = true) (hil : il = len) (hic : ic = cap) (hle : len ≤ cap) (hb : bb * cap ≤ 2 ^ 48) (hc : cap ≤ 2 ^ 48) (h : Holds w l)
    (k : ∀ b w', Same w w' → Holds w' (cl b el (List.replicate cap z) :: l) → K (.slice (some ⟨b, 0, none⟩) len cap) w') : Stp P n e ⟨d, .makeSlice t x y, ty, pos, af, g⟩ w K := by
  have hcs : z.cells = #[z] := by cases z <;> first | rfl | simp [Value.oneCell'] at hv
  refine T_makeSlice hx hy hu hz (by rw [hcs]; rfl) hil hic hle hb hc h ?_
  have e1 : (List.replicate cap z.cells.toList).flatten = List.replicate cap z := by
    rw [hcs]
    induction cap with
    | zero => rfl
    | succ c ih => simp [List.replicate_succ] at ih ⊢
  rw [e1]
  exact k
end
end Go.Proofs.Ytlnihndjepjagaa.Gw
