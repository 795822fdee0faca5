/- The own words of these proofs: bits, shifts, strings, zeros appended, deferred calls. -/
import Derived.Test.YtlnihndjepjagaaGwS
import Derived.Test.YtlnihndjepjagaaGwK
import Derived.Test.YtlnihndjepjagaaGwG
import Derived.Lib.AppendZerosOnto
set_option linter.unusedVariables false
set_option linter.unusedSimpArgs false
set_option linter.unusedSectionVars false
namespace Go.Proofs.Ytlnihndjepjagaa.Gw
open Go Go.RowKit
section
variable {P : Program} {n : Nat} {e : Env} {w : World} {K : Value → World → Prop} {Q : Exit → Act → World → Prop} {d : Option Nat} {ty : TypeId} {pos : String} {af : Array Edge} {g : Option (Nat × Bool)} {l : List SP} {ds : List Deferred}
theorem x_cplU {x : Operand} {t : TypeId} {k : IntKind} {a c : Int} (hx : ev n e x = .int k a) (hk : k.signed = false) (hv : ixor k k.max a = c) : (execOp (ev n e) ⟨d, .unOp .xor t x, ty, pos, af, g⟩).run P w = .ok (.value (.int k c)) w := by
  subst hv
  simp only [execOp]; rw [hx]
  refine run_v _ ?_
  simp [Op.unary, hk, Op.intBits, ixor]
theorem shrN {x q : Int} {m : Nat} (h : (2 : Int) ^ m = q) (hq : 0 ≤ q) : x.fdiv (2 ^ m) = x / q := by rw [h, Int.fdiv_eq_ediv_of_nonneg _ hq]
theorem so_add {a b : ByteArray} (h : a.size + b.size ≤ 9223372036854775807) : (Op.stringOp .add a b).run P w = .ok (.string (a ++ b)) w := by
  have : ¬ (((a.size + b.size : Nat) : Int) > IntKind.i64.max) := by
    have : IntKind.i64.max = 9223372036854775807 := by decide
    omega
  simp only [Op.stringOp, this, if_false]; rfl
theorem x_strIdx {t : TypeId} {x y : Operand} {u : ByteArray} {k' : IntKind} {ii : Int} {i : Nat} {b : Int} (hx : ev n e x = .string u) (hy : ev n e y = .int k' ii) (hu : P.underlying t = some .string) (h0 : 0 ≤ ii) (hn : ii.toNat = i) (hb : (ints u)[i]? = some b) :
    (execOp (ev n e) ⟨d, .index t x y, ty, pos, af, g⟩).run P w = .ok (.value (.int .u8 b)) w := by
  subst hn
  have hi : u[ii.toNat]? = some (UInt8.ofNat b.toNat) ∧ ((UInt8.ofNat b.toNat).toNat : Int) = b := by
    simp only [ints, List.getElem?_map] at hb
    cases hc : u.data.toList[ii.toNat]? with
    | none => rw [hc] at hb; cases hb
    | some c =>
      rw [hc] at hb
      simp only [Option.map_some, Option.some.injEq] at hb
      subst hb
      have hlt := (List.getElem?_eq_some_iff.1 hc).1
      have hs : ii.toNat < u.size := by simpa using hlt
      refine ⟨?_, by simp⟩
      rw [getElem?_pos u ii.toNat hs]
      have : u[ii.toNat] = c := by
        have := (List.getElem?_eq_some_iff.1 hc).2
        rw [← this]; rfl
      rw [this]; simp
  simp only [execOp]
  refine run_v _ ?_
  rw [hx, hy]
  simp only [Instr.index, asIntOf, Sem.run_bind, Sem.run_pure, Result.andThen_ok, run_underlying hu, if_pos h0, hi.1]
  rw [hi.2]
theorem ints_app (a b : ByteArray) : ints (a ++ b) = ints a ++ ints b := by simp [ints]
def Byt (ns : List Int) : Prop := ∀ b ∈ ns, 0 ≤ b ∧ b < 256
theorem Byt.nil : Byt [] := fun b h => by cases h
theorem Byt.app {a b : List Int} (h : Byt a) (k : Byt b) : Byt (a ++ b) := fun x hx => (List.mem_append.1 hx).elim (h x) (k x)
theorem Byt.cons {a : Int} {b : List Int} (h : 0 ≤ a ∧ a < 256) (k : Byt b) : Byt (a :: b) := fun x hx => (List.mem_cons.1 hx).elim (fun e => e ▸ h) (k x)
theorem Byt.left {a b : List Int} (h : Byt (a ++ b)) : Byt a := fun x hx => h x (List.mem_append_left _ hx)
theorem Byt.right {a b : List Int} (h : Byt (a ++ b)) : Byt b := fun x hx => h x (List.mem_append_right _ hx)
theorem byt_ints (u : ByteArray) : Byt (ints u) := by
  intro b hb
  simp only [ints, List.mem_map] at hb
  obtain ⟨c, _, rfl⟩ := hb
  have := c.toNat_lt
  omega
theorem ints_strN {ns : List Int} (h : Byt ns) : ints (strN ns) = ns := by
  have e : ints (strN ns) = ((strN ns).data.toList).map fun b => (b.toNat : Int) := rfl
  rw [e, strN_data, List.map_map]
  conv => rhs; rw [← List.map_id ns]
  refine List.map_congr_left fun b hb => ?_
  have := h b hb
  simp only [Function.comp, UInt8.toNat_ofNat', id]
  omega
theorem ints_inj {a b : ByteArray} (h : ints a = ints b) : a = b := by
  have key : ∀ (l m : List UInt8), (l.map fun b => (b.toNat : Int)) = (m.map fun b => (b.toNat : Int)) → l = m := by
    intro l
    induction l with
    | nil => intro m h; cases m with
      | nil => rfl
      | cons _ _ => simp at h
    | cons x l ih => intro m h; cases m with
      | nil => simp at h
      | cons y m =>
        simp only [List.map_cons, List.cons.injEq] at h
        have : x = y := by
          apply UInt8.toNat_inj.1
          have := h.1; omega
        rw [this, ih m h.2]
  obtain ⟨⟨a⟩⟩ := a
  obtain ⟨⟨b⟩⟩ := b
  have := key a b h
  subst this; rfl
theorem strN_size' (ns : List Int) : (strN ns).size = ns.length := by
  have := congrArg List.length (strN_data ns)
  simpa using this
theorem run_append_zeros_sl {t tx ty el bb m k : Nat} {kn kq : IntKind} {z v : Value} {xs : List Value} (ht : P.underlying t = some (.slice el)) (htx : P.underlying tx = some (.int kn)) (hz : tin P el = some (1, bb, some z)) (hzs : z.oneCell' = true) (hb : 0 < bb) (hk : 0 < k)
    (h : Holds w l) (i : Nat) (hi : l[i]? = some (sl el 1 v m xs)) (hroom : (m + k) * bb ≤ 140737488355328) :
    ∃ v' w', (Builtin.append_ #[t, tx] ty #[v, .int kq k]).run P w = .ok v' w' ∧ Same w w' ∧ Holds w' (l.set i (sl el 1 v' (m + k) (xs ++ List.replicate k z))) := by
  obtain ⟨ti, hti, h1, h2, h3⟩ := tin_info hz
  have hl : i < l.length := (List.getElem?_eq_some_iff.1 hi).1
  have hmk : m + k ≤ 140737488355328 := Nat.le_trans (Nat.le_mul_of_pos_right _ hb) hroom
  have hkb : k * bb ≤ 140737488355328 := Nat.le_trans (Nat.mul_le_mul_right _ (Nat.le_add_left k m)) hroom
  have hzc : z.cells = #[z] := by cases z <;> first | rfl | simp [Value.oneCell'] at hzs
  have hzr : ∀ c : Nat, (Builtin.zeroCells z.cells c).toList = List.replicate c z := by
    intro c
    rw [hzc]
    have := zeros_eq #[z] c
    simp only [List.size_toArray, List.length_cons, List.length_nil] at this
    have e : Builtin.zeroCells #[z] c = (Array.range (c * 1)).map fun x => (#[z] : Array Value)[x % 1]! := rfl
    rw [e]
    refine this.trans ?_
    induction c with
    | zero => rfl
    | succ c ih => simp [List.replicate_succ] at ih ⊢
  have grow : ∀ (base : Option Addr) (cap : Nat), cap < m + k → (Builtin.firstCells 1 m (.slice base m cap)).run P w.drew = .ok xs.toArray w.drew → xs.length = m →
      ∃ v' w', (Builtin.append_ #[t, tx] ty #[.slice base m cap, .int kq k]).run P w = .ok v' w' ∧ Same w w' ∧ Holds w' (l.set i (sl el 1 v' (m + k) (xs ++ List.replicate k z))) := by
    intro base cap hg hold hlen
    have hfit : Builtin.nextslicecap (m + k) cap * ti.bytes ≤ 281474976710656 := by
      rw [h2]
      have := nextslicecap_le hg
      calc Builtin.nextslicecap (m + k) cap * bb ≤ 2 * (m + k) * bb := Nat.mul_le_mul_right _ this
        _ = 2 * ((m + k) * bb) := by rw [Nat.mul_assoc]
        _ ≤ _ := by omega
    have hr := Go.Lib.run_append_grow_zeros (P := P) w t tx ty el ti z kq kn ht htx hti h3 base m cap xs (by rw [h1]; exact hold) k hk (by rw [h1]; omega) hg (by omega) (by rw [h2]; omega) hfit
    refine ⟨_, _, hr, Same.drew_alloc w _, ?_⟩
    have hge : m + k ≤ grownCap w (m + k) cap el := grownCap_ge w (m + k) cap el
    have ha := (h.drew).alloc ((xs.toArray ++ Builtin.zeroCells z.cells k ++ Builtin.zeroCells z.cells (grownCap w (m + k) cap el - (m + k)))) el
    have hb' := ha.bring (i + 1) (A := sl el 1 v m xs) (by simpa using hi)
    have hc := hb'.tail
    have hd : Holds (w.drew.alloc (.cells (xs.toArray ++ Builtin.zeroCells z.cells k ++ Builtin.zeroCells z.cells (grownCap w (m + k) cap el - (m + k))) el))
        (sl el 1 (.slice (some ⟨w.heap.size, 0, none⟩) (m + k) (grownCap w (m + k) cap el)) (m + k) (xs ++ List.replicate k z) :: l.eraseIdx i) := by
      refine Holds.map_at (B := sl el 1 (.slice (some ⟨w.heap.size, 0, none⟩) (m + k) (grownCap w (m + k) cap el)) (m + k) (xs ++ List.replicate k z)) hc 0 rfl fun h' a => .inr ⟨w.heap.size, [], List.replicate (grownCap w (m + k) cap el - (m + k)) z, grownCap w (m + k) cap el, rfl, ?_, ?_, hge, ?_⟩
      · simp [hlen]
      · simp
      · simp only [Array.toList_append, hzr] at a; simpa using a
    refine Sat.back i (A := sl el 1 (.slice (some ⟨w.heap.size, 0, none⟩) (m + k) (grownCap w (m + k) cap el)) (m + k) (xs ++ List.replicate k z)) (by simp [hl]) ?_
    rw [List.eraseIdx_set_eq]
    exact hd
  rcases h.sl_at i hi with ⟨rfl, rfl, rfl⟩ | ⟨b, pr, sp, cap, rfl, e2, e3, e4, hh⟩
  · exact grow none 0 (by omega) (run_firstCells_none _ _ _ _ _) (by simp)
  · by_cases hroom' : m + k ≤ cap
    · have hi' : (l.set i (cl b el (pr ++ xs ++ sp)))[i]? = some (cl b el (pr ++ xs ++ sp)) := by simp [hl]
      have hyl : (List.replicate k z).length = k := by simp
      have hsp : k ≤ sp.length := by omega
      have hoff : pr.length + m + (List.replicate k z).length ≤ (pr ++ xs ++ sp).length := by simp only [List.length_append]; omega
      have hw : IntKind.i64.wrap (k : Int) = k := wrap_i64 (by omega) (by omega)
      have hneg : ¬ ((k : Int) < 0) := by omega
      have h48i : ¬ (281474976710656 < (k : Int) * (ti.bytes : Int)) := by
        rw [← Int.natCast_mul, h2]; omega
      have hns : ¬ (k * ti.size = 0) := by rw [h1]; omega
      have hst := run_storeCells (P := P) (b := b) (List.replicate k z) (pr.length + m) 0 w (fun u hu => by rw [(List.mem_replicate.1 hu).2]; exact hzs)
        (fun j hj => ⟨_, hh.cl_cell i hi' (List.getElem?_eq_getElem (by omega : pr.length + m + 0 + j < (pr ++ xs ++ sp).length))⟩)
        (fun j hj => hh.cl_frozen i hi' (by omega))
      have hadd : (Addr.mk b pr.length none).add (m * ti.size) = ⟨b, pr.length + m, none⟩ := by rw [h1, Nat.mul_one, add_mk]
      have hzl : (Builtin.zeroCells z.cells k).toList = List.replicate k z := hzr k
      have hr : (Builtin.append_ #[t, tx] ty #[.slice (some ⟨b, pr.length, none⟩) m cap, .int kq k]).run P w = .ok (.slice (some ⟨b, pr.length, none⟩) (m + k) cap) (setCells w b (pr.length + m) (List.replicate k z)) := by
        simp [Builtin.append_, run_underlying ht, run_underlying htx, sizeOf, typeInfo, zeroValue, hti, h3, asInt, asIntOf, hw, hneg, h48i, hns, hroom', hadd, hzl, hst]
      refine ⟨_, _, hr, Same.setCells b _ _ w, ?_⟩
      have hset2 := Holds.setCells i (List.replicate k z) (pr.length + m) w _ _ hh hi' hoff
      rw [List.set_set] at hset2
      have e0 : (pr ++ xs ++ sp).take (pr.length + m) ++ List.replicate k z ++ (pr ++ xs ++ sp).drop (pr.length + m + (List.replicate k z).length) = pr ++ (xs ++ List.replicate k z) ++ sp.drop k := by
        have e1 : (pr ++ xs).length = pr.length + m := by rw [List.length_append]; omega
        rw [← e1, List.take_left, List.drop_append, List.drop_eq_nil_of_le (by omega), hyl, show (pr ++ xs).length + k - (pr ++ xs).length = k by omega]
        simp [List.append_assoc]
      rw [e0] at hset2
      have := Holds.map_at (B := sl el 1 (.slice (some ⟨b, pr.length, none⟩) (m + k) cap) (m + k) (xs ++ List.replicate k z)) hset2 i (by simp [hl]) fun h' a =>
        .inr ⟨b, pr, sp.drop k, cap, rfl, by simp; omega, by rw [List.length_drop, e3]; omega, hroom', a⟩
      rwa [List.set_set] at this
    · refine grow _ cap (by omega) ?_ (by omega)
      refine run_firstCells_some _ _ _ _ _ _ _ e2 fun j u hj => ?_
      rw [add_mk]
      have hi' : (l.set i (cl b el (pr ++ xs ++ sp)))[i]? = some (cl b el (pr ++ xs ++ sp)) := by simp [hl]
      have hj' : j < xs.length := (List.getElem?_eq_some_iff.1 hj).1
      exact hh.drew.cl_cell i hi' (k := pr.length + j) (v := u) (by rw [List.append_assoc, List.getElem?_append_right (by omega), show pr.length + j - pr.length = j by omega, List.getElem?_append_left hj', hj])
theorem T_appendZ {t tx el bb m k : Nat} {kn kq : IntKind} {o1 o2 : Operand} {z v : Value} {xs : List Value} {ki : Int} (h1 : ev n e o1 = v) (h2 : ev n e o2 = .int kq ki) (hki : ki = k) (ht : P.underlying t = some (.slice el)) (htx : P.underlying tx = some (.int kn)) (hz : tin P el = some (1, bb, some z)) (hzs : z.oneCell' = true) (hb : 0 < bb) (hk : 0 < k)
    (h : Holds w l) (i : Nat) (hi : l[i]? = some (sl el 1 v m xs)) (hroom : (m + k) * bb ≤ 140737488355328)
    (kk : ∀ v' w', Same w w' → Holds w' (l.set i (sl el 1 v' (m + k) (xs ++ List.replicate k z))) → K v' w') :
    Stp P n e ⟨d, .call { callee := .builtin .append, args := #[o1, o2], argTypes := #[t, tx] }, ty, pos, af, g⟩ w K := by
  subst hki
  obtain ⟨v', w', hr, hs, hh⟩ := run_append_zeros_sl (ty := ty) (kq := kq) ht htx hz hzs hb hk h i hi hroom
  refine .inl ⟨v', w', ?_, kk v' w' hs hh⟩
  simp only [execOp, resolve, Sem.run_bind, Sem.run_pure, Result.andThen_ok, invoke, builtin]
  simp [h1, h2, hr]
/-! ### Regions whose order is open: shorter words -/
theorem A_tk {lo : List Oper} {S : World → Prop} {fuel : Nat} {ls : Array Bool} {Q : Exit → Act → World → Prop} (i : Nat) {dd : Nat} {op : Op} {v : Value} (hi : lo[i]? = some ⟨some dd, op, ty, pos, af, none⟩)
    (hc : (Region.noSelect lo.toArray && Region.free .any lo.toArray ls i && (Region.ready .any lo.toArray ls).contains i) = true)
    (hy : ∀ w, S w → (execOp (ev n e) ⟨some dd, op, ty, pos, af, none⟩).run P w = .ok (.value v) w) (hS : S w) (h : wpAnyH P .any lo.toArray Q S fuel (ls.setIfInBounds i true) (mkA n (upd e dd v) ds) w)
    (hQ : ∀ c a w, Q (.panic c) (a.put (some dd) v) w → Q (.panic c) a w := by exact fun _ _ _ h => h) :
    wpAnyH P .any lo.toArray Q S (fuel + 1) ls (mkA n e ds) w := by
  simp only [Bool.and_eq_true] at hc
  exact A_take i hi hc.1.1 hc.1.2 hc.2 rfl hQ hy hS h
theorem A_tkY {lo : List Oper} {S : World → Prop} {fuel : Nat} {ls : Array Bool} {Q : Exit → Act → World → Prop} (i : Nat) {dd j dj : Nat} {b : Bool} {op : Op} {v : Value} (hi : lo[i]? = some ⟨some dd, op, ty, pos, af, some (j, b)⟩)
    (hc : (Region.noSelect lo.toArray && Region.free .any lo.toArray ls i && (Region.ready .any lo.toArray ls).contains i) = true) (hj : (lo[j]?).bind (·.dst) = some dj) (hn : Nat.blt dj n = true) (hb : e dj = .bool b)
    (hy : ∀ w, S w → (execOp (ev n e) ⟨some dd, op, ty, pos, af, some (j, b)⟩).run P w = .ok (.value v) w) (hS : S w) (h : wpAnyH P .any lo.toArray Q S fuel (ls.setIfInBounds i true) (mkA n (upd e dd v) ds) w)
    (hQ : ∀ c a w, Q (.panic c) (a.put (some dd) v) w → Q (.panic c) a w := by exact fun _ _ _ h => h) :
    wpAnyH P .any lo.toArray Q S (fuel + 1) ls (mkA n e ds) w := by
  simp only [Bool.and_eq_true] at hc
  exact A_takeYes i hi hc.1.1 hc.1.2 hc.2 rfl hQ hj hn hb hy hS h
theorem A_tkN {lo : List Oper} {S : World → Prop} {fuel : Nat} {ls : Array Bool} {Q : Exit → Act → World → Prop} (i : Nat) {dd j dj : Nat} {b c : Bool} {op : Op} (hi : lo[i]? = some ⟨some dd, op, ty, pos, af, some (j, c)⟩)
    (hc : (Region.noSelect lo.toArray && Region.free .any lo.toArray ls i && (Region.ready .any lo.toArray ls).contains i) = true) (hj : (lo[j]?).bind (·.dst) = some dj) (hn : Nat.blt dj n = true) (hb : e dj = .bool b) (hbc : b ≠ c) (hS : S w)
    (h : wpAnyH P .any lo.toArray Q S fuel (ls.setIfInBounds i true) (mkA n (upd e dd undef) ds) w)
    (hQ : ∀ c a w, Q (.panic c) (a.put (some dd) undef) w → Q (.panic c) a w := by exact fun _ _ _ h => h) :
    wpAnyH P .any lo.toArray Q S (fuel + 1) ls (mkA n e ds) w := by
  simp only [Bool.and_eq_true] at hc
  exact A_takeNo i hi hc.1.1 hc.1.2 hc.2 rfl hQ hj hn hb hbc hS h
/-! ### Deferred calls of functions that do nothing -/
theorem leaves_skip {fn fn' : Func} {tmps dargs : Array Value} {R : Ending → World → Prop} {f : FuncId} {dd : List Deferred} (hf : P.funcs[f]? = some fn') (hb : fn'.body = some .skip) (hr : fn'.results = #[])
    (hi : (invoke (.fn (.func f) #[]) dargs).run P w = .ok (.enter f dargs) w) (h : Leaves P fn tmps R dd .returning w) : Leaves P fn tmps R ({ target := .fn (.func f) #[], args := dargs } :: dd) .returning w :=
  leaves_cons (by simp) hi ((callsD_of_wp hf hb (R := fun e w' => e = .returned (.tuple #[]) ∧ w' = w) (wp_skip (bodyPost_end (results_none hr _ _ _) rfl ⟨rfl, rfl⟩))).mono fun e u' w' ⟨hu, he, hw⟩ => by
    subst he; subst hw; subst hu
    exact h)
theorem R_D {fn : Func} {R : Ending → World → Prop} {dd : List Deferred} (h : Leaves P fn (mkA n e dd).tmps R dd .returning w) : bodyPostD P fn R .ret (mkA n e dd) w := by
  show Leaves P fn (mkA n e dd).tmps R (mkA n e dd).defers .returning w
  rw [mkA_defers]; exact h
theorem R_Dn {fn : Func} {R : Ending → World → Prop} {dd : List Deferred} (h : Leaves P fn (mkA n e dd).tmps R dd .returning w) : bodyPostD P fn R .normal (mkA n e dd) w := by
  show Leaves P fn (mkA n e dd).tmps R (mkA n e dd).defers .returning w
  rw [mkA_defers]; exact h
theorem Tri.intoD {f : FuncId} {fn : Func} {c : Code} {args : Array Value} {al : List Value} {R : HP} {pre : List SP} {Qc : Value → List SP → Prop} (hf : P.funcs[f]? = some fn) (hb : fn.body = some c) (hn : fn.ntmps = n)
    (ha : args = al.toArray) (hl : Nat.ble al.length n = true)
    (h : ∀ w F, Holds w (ro R :: (pre ++ F)) → c.wp P (bodyPostD P fn fun r w' => ∃ v post, r = .returned v ∧ Qc v post ∧ Same w w' ∧ Holds w' (ro R :: (post ++ F))) (mkA n (fun t => al.getD t undef) []) w) :
    Tri P f args R pre Qc := fun w F hh => Calls.intoD hf hb hn ha hl (h w F hh)
end
end Go.Proofs.Ytlnihndjepjagaa.Gw
