/- The own words of these proofs for a walk: plain operations as equations, and regions whose order is open. -/
import Derived.Test.YtlnihndjepjagaaGwD
import Derived.OrdersHeld
set_option linter.unusedVariables false
set_option linter.unusedSimpArgs false
namespace Go.Proofs.Ytlnihndjepjagaa.Gw
open Go Go.RowKit
section
variable {P : Program} {n : Nat} {e : Env} {w : World} {K : Value → World → Prop} {Q : Exit → Act → World → Prop} {ops : Array Oper} {rest : List Oper} {ds : List Deferred}
  {d : Option Nat} {ty : TypeId} {pos : String} {af : Array Edge} {g : Option (Nat × Bool)} {l : List SP}
theorem x_cast {o : Oper} {v v' : Value} (h : (execOp (ev n e) o).run P w = .ok (.value v) w) (hv : v = v') : (execOp (ev n e) o).run P w = .ok (.value v') w := hv ▸ h
theorem x_load1 {t : TypeId} {u : TypeDesc} {x : Operand} {p : Addr} {v : Value} (hx : ev n e x = .pointer (some p)) (hu : P.underlying t = some u) (hd : aggD u = false) (hc : w.cell? p = some v) :
    (execOp (ev n e) ⟨d, .load t x, ty, pos, af, g⟩).run P w = .ok (.value v) w := by simp only [execOp]; rw [hx]; exact run_v _ (run_loadAt1 hu hd hc)
theorem x_loadN {t s b : Nat} {z : Option Value} {u : TypeDesc} {x : Operand} {p : Addr} {vs : List Value} (hx : ev n e x = .pointer (some p)) (hu : P.underlying t = some u) (hd : aggD u = true)
    (hz : tin P t = some (s, b, z)) (hl : vs.length = s) (hc : ∀ j v, vs[j]? = some v → w.cell? (p.add j) = some v) : (execOp (ev n e) ⟨d, .load t x, ty, pos, af, g⟩).run P w = .ok (.value (.agg vs.toArray)) w := by
  simp only [execOp]; rw [hx]; exact run_v _ (run_loadAtN hu hd hz hl hc)
theorem x_fieldAddr {s : TypeId} {x : Operand} {f : Nat} {fs : Array Field} {fd : Field} {sz bb : Nat} {z : Option Value} {b off : Nat} {p : Addr} (hx : ev n e x = .pointer (some ⟨b, off, none⟩))
    (hu : P.underlying s = some (.struct fs)) (hf : fs[f]? = some fd) (hz : tin P fd.type = some (sz + 1, bb, z)) (hp : (⟨b, off + fd.offset, none⟩ : Addr) = p) :
    (execOp (ev n e) ⟨d, .fieldAddr s x f, ty, pos, af, g⟩).run P w = .ok (.value (.pointer (some p))) w := by
  subst hp
  simp only [execOp]
  rw [hx]
  refine run_v _ ?_
  simp only [Instr.fieldAt, Sem.run_bind, run_underlying hu, Result.andThen_ok, hf, Instr.sureAddr, Sem.run_pure, fieldPlace, run_sizeOf hz]
  simp [add_mk]
theorem x_indexAddr {t el : TypeId} {x y : Operand} {b off len cap i sz bb : Nat} {z : Option Value} {k' : IntKind} {p : Addr} {ii : Int} (hx : ev n e x = .slice (some ⟨b, off, none⟩) len cap) (hy : ev n e y = .int k' ii)
    (hu : P.underlying t = some (.slice el)) (hz : tin P el = some (sz, bb, z)) (h0 : 0 ≤ ii) (hi : ii < len) (hn : ii.toNat = i) (hp : (⟨b, off + i * sz, none⟩ : Addr) = p) :
    (execOp (ev n e) ⟨d, .indexAddr t x y, ty, pos, af, g⟩).run P w = .ok (.value (.pointer (some p))) w := by
  subst hp; subst hn
  simp only [execOp]
  rw [hx, hy]
  refine run_v _ ?_
  simp [Instr.indexAt, asIntOf, run_underlying hu, h0, hi, run_sizeOf hz, add_mk]
theorem x_slice {t el : TypeId} {x : Operand} {lo hi : Option Operand} {a : Option Addr} {len cap sz bb l h : Nat} {z : Option Value} {v : Value} (hx : ev n e x = .slice a len cap) (hu : P.underlying t = some (.slice el))
    (hz : tin P el = some (sz, bb, z)) (hh : (match hi.map (ev n e) with | none => h = len | some v => ∃ k i, v = .int k i ∧ 0 ≤ i ∧ i ≤ cap ∧ i.toNat = h))
    (hl : (match lo.map (ev n e) with | none => l = 0 | some v => ∃ k i, v = .int k i ∧ 0 ≤ i ∧ i ≤ h ∧ i.toNat = l)) (hv : Value.slice (if cap = l then a else a.map (·.add (l * sz))) (h - l) (cap - l) = v) :
    (execOp (ev n e) ⟨d, .slice t x lo hi none, ty, pos, af, g⟩).run P w = .ok (.value v) w := by
  subst hv
  simp only [execOp]
  rw [hx]
  refine run_v _ ?_
  exact run_slice_slice hu hz (run_bounds hh hl)
theorem x_convI {s t : TypeId} {x : Operand} {k k' : IntKind} {a b : Int} {u : TypeDesc} (hx : ev n e x = .int k a) (hs : P.underlying s = some u) (ht : P.underlying t = some (.int k')) (hv : k'.wrap a = b) :
    (execOp (ev n e) ⟨d, .convert s t x, ty, pos, af, g⟩).run P w = .ok (.value (.int k' b)) w := by
  subst hv
  simp only [execOp]
  rw [hx]
  refine run_v _ ?_
  simp only [convert, Sem.run_bind, run_underlying hs, run_underlying ht, Result.andThen_ok]
  cases u <;> simp [Conv.intToInt]
theorem x_lenS {argO : Operand} {t : TypeId} {el : TypeId} {a : Option Addr} {len cap : Nat} (hx : ev n e argO = .slice a len cap) (hu : P.underlying t = some (.slice el)) :
    (execOp (ev n e) ⟨d, .call { callee := .builtin .len, args := #[argO], argTypes := #[t] }, ty, pos, af, g⟩).run P w = .ok (.value (.int .i64 len)) w := by
  simp only [execOp, resolve, Sem.run_bind, Sem.run_pure, Result.andThen_ok, invoke, builtin]
  simp [hx, Builtin.len_, run_underlying hu, goInt]
theorem x_capS {argO : Operand} {t : TypeId} {el : TypeId} {a : Option Addr} {len cap : Nat} (hx : ev n e argO = .slice a len cap) (hu : P.underlying t = some (.slice el)) :
    (execOp (ev n e) ⟨d, .call { callee := .builtin .cap, args := #[argO], argTypes := #[t] }, ty, pos, af, g⟩).run P w = .ok (.value (.int .i64 cap)) w := by
  simp only [execOp, resolve, Sem.run_bind, Sem.run_pure, Result.andThen_ok, invoke, builtin]
  simp [hx, Builtin.cap_, run_underlying hu, goInt]
theorem x_lenT {argO : Operand} {t : TypeId} {s : ByteArray} (hx : ev n e argO = .string s) (hu : P.underlying t = some .string) :
    (execOp (ev n e) ⟨d, .call { callee := .builtin .len, args := #[argO], argTypes := #[t] }, ty, pos, af, g⟩).run P w = .ok (.value (.int .i64 s.size)) w := by
  simp only [execOp, resolve, Sem.run_bind, Sem.run_pure, Result.andThen_ok, invoke, builtin]
  simp [hx, Builtin.len_, run_underlying hu, goInt]
/-- A shift by a number that is not negative. -/
theorem x_shr {t u : TypeId} {x y : Operand} {k k' : IntKind} {a b c : Int} (hx : ev n e x = .int k a) (hy : ev n e y = .int k' b) (hb : 0 ≤ b) (hv : a.fdiv (2 ^ (min b.toNat k.bits)) = c) :
    (execOp (ev n e) ⟨d, .binOp .shr t x y u, ty, pos, af, g⟩).run P w = .ok (.value (.int k c)) w := by
  subst hv
  simp only [execOp]
  rw [hx, hy]
  refine run_v _ ?_
  have : ¬ b < 0 := by omega
  simp [run_eqGuard_int, binOp, Op.shift, this]
theorem x_shl {t u : TypeId} {x y : Operand} {k k' : IntKind} {a b c : Int} (hx : ev n e x = .int k a) (hy : ev n e y = .int k' b) (hb : 0 ≤ b) (hv : k.wrap (a * 2 ^ (min b.toNat k.bits)) = c) :
    (execOp (ev n e) ⟨d, .binOp .shl t x y u, ty, pos, af, g⟩).run P w = .ok (.value (.int k c)) w := by
  subst hv
  simp only [execOp]
  rw [hx, hy]
  refine run_v _ ?_
  have : ¬ b < 0 := by omega
  simp [run_eqGuard_int, binOp, Op.shift, this]
theorem x_not {x : Operand} {t : TypeId} {b : Bool} (hx : ev n e x = .bool b) : (execOp (ev n e) ⟨d, .unOp .not t x, ty, pos, af, g⟩).run P w = .ok (.value (.bool !b)) w := by
  simp only [execOp]; rw [hx]; rfl
theorem x_notP {x : Operand} {t : TypeId} {p : Prop} [Decidable p] (hx : ev n e x = .bool (decide p)) : (execOp (ev n e) ⟨d, .unOp .not t x, ty, pos, af, g⟩).run P w = .ok (.value (.bool (decide (¬ p)))) w := by
  rw [x_not hx]; simp
theorem x_pickT {c x y : Operand} {v : Value} (hc : ev n e c = .bool true) (hx : ev n e x = v) : (execOp (ev n e) ⟨d, .pick c x y, ty, pos, af, g⟩).run P w = .ok (.value v) w := by
  simpa using x_pick (P := P) (w := w) (d := d) (ty := ty) (pos := pos) (af := af) (g := g) hc hx (rfl : ev n e y = ev n e y)
theorem x_pickF {c x y : Operand} {v : Value} (hc : ev n e c = .bool false) (hy : ev n e y = v) : (execOp (ev n e) ⟨d, .pick c x y, ty, pos, af, g⟩).run P w = .ok (.value v) w := by
  simpa using x_pick (P := P) (w := w) (d := d) (ty := ty) (pos := pos) (af := af) (g := g) hc (rfl : ev n e x = ev n e x) hy
theorem x_str {op : BinOp} {t u : TypeId} {x y : Operand} {a b : ByteArray} {v : Value} (hx : ev n e x = .string a) (hy : ev n e y = .string b) (hv : (Op.stringOp op a b).run P w = .ok v w) (ho : op ≠ .shl ∧ op ≠ .shr) :
    (execOp (ev n e) ⟨d, .binOp op t x y u, ty, pos, af, g⟩).run P w = .ok (.value v) w := by
  simp only [execOp]
  rw [hx, hy]
  refine run_v _ ?_
  have h1 : (eqGuard op t x y (.string a) (.string b)).run P w = .ok () w := by unfold eqGuard; cases op <;> rfl
  simp only [Sem.run_bind, h1, Result.andThen_ok]
  cases op <;> first | exact hv | simp at ho

/-! ### What a block of ours, or one that is only read, holds -/
def Rd (b : Nat) (cs : List Value) (w : World) : Prop := ∀ k v, cs[k]? = some v → w.cell? ⟨b, k, none⟩ = some v
theorem Rd.cells {b : Nat} {cs : List Value} (h : Rd b cs w) (off : Nat) {vs : List Value} (hv : (cs.drop off).take vs.length = vs) : ∀ j v, vs[j]? = some v → w.cell? ((Addr.mk b off none).add j) = some v := by
  intro j v hj
  rw [add_mk]
  refine h _ _ ?_
  rw [← hv] at hj
  rw [List.getElem?_take] at hj
  split at hj
  · rw [List.getElem?_drop] at hj; exact hj
  · cases hj
theorem Holds.rd (h : Holds w l) (i : Nat) {b : Nat} {T : TypeId} {cs : List Value} (hi : l[i]? = some (cl b T cs)) : Rd b cs w := fun _ _ hk => h.cl_cell i hi hk

/-! ### Regions whose order is open -/
theorem A_start {id N : Nat} {lo : List Oper} {S : World → Prop} (hm : P.follows .mixedOrders = true) (hs : Nat.beq lo.length N = true) {ls : Array Bool} (hl : Array.replicate N false = ls)
    (h : wpAnyH P .any lo.toArray Q S N ls (mkA n e ds) w.drew) : (Code.region id lo.toArray true).wp P Q (mkA n e ds) w := by
  have hs' : lo.length = N := Nat.eq_of_beq_eq_true hs
  subst hl
  refine wp_region_held (S := S) hm ?_
  have : lo.toArray.size = N := by simpa using hs'
  rw [this]
  exact h
theorem A_take {lo : List Oper} {S : World → Prop} {fuel : Nat} {ls ls' : Array Bool} (i : Nat) {dd : Nat} {op : Op} {v : Value} (hi : lo[i]? = some ⟨some dd, op, ty, pos, af, none⟩) (hs : Region.noSelect lo.toArray = true)
    (hf : Region.free .any lo.toArray ls i = true) (hr : (Region.ready .any lo.toArray ls).contains i = true) (hl : ls.setIfInBounds i true = ls') (hQ : ∀ c a w, Q (.panic c) (a.put (some dd) v) w → Q (.panic c) a w)
    (hy : ∀ w, S w → (execOp (ev n e) ⟨some dd, op, ty, pos, af, none⟩).run P w = .ok (.value v) w) (hS : S w) (h : wpAnyH P .any lo.toArray Q S fuel ls' (mkA n (upd e dd v) ds) w) :
    wpAnyH P .any lo.toArray Q S (fuel + 1) ls (mkA n e ds) w := by
  subst hl
  have hi : lo.toArray[i]? = _ := (List.getElem?_toArray ..).trans hi
  refine wpAnyH_take hi hs hf hr hQ (.inl ⟨rfl, fun w hw => ?_⟩) hS ?_
  · rw [eval_mkA]; exact hy w hw
  · rw [put_mkA]; exact h
theorem A_takeYes {lo : List Oper} {S : World → Prop} {fuel : Nat} {ls ls' : Array Bool} (i : Nat) {dd j dj : Nat} {b : Bool} {op : Op} {v : Value} (hi : lo[i]? = some ⟨some dd, op, ty, pos, af, some (j, b)⟩) (hs : Region.noSelect lo.toArray = true)
    (hf : Region.free .any lo.toArray ls i = true) (hr : (Region.ready .any lo.toArray ls).contains i = true) (hl : ls.setIfInBounds i true = ls') (hQ : ∀ c a w, Q (.panic c) (a.put (some dd) v) w → Q (.panic c) a w)
    (hj : (lo[j]?).bind (·.dst) = some dj) (hn : Nat.blt dj n = true) (hb : e dj = .bool b)
    (hy : ∀ w, S w → (execOp (ev n e) ⟨some dd, op, ty, pos, af, some (j, b)⟩).run P w = .ok (.value v) w) (hS : S w) (h : wpAnyH P .any lo.toArray Q S fuel ls' (mkA n (upd e dd v) ds) w) :
    wpAnyH P .any lo.toArray Q S (fuel + 1) ls (mkA n e ds) w := by
  subst hl
  have hi : lo.toArray[i]? = _ := (List.getElem?_toArray ..).trans hi
  refine wpAnyH_take hi hs hf hr hQ (.inl ⟨by simp [Region.wanted, yielded_mkA (ds := ds) hj hn hb], fun w hw => ?_⟩) hS ?_
  · rw [eval_mkA]; exact hy w hw
  · rw [put_mkA]; exact h
theorem A_takeNo {lo : List Oper} {S : World → Prop} {fuel : Nat} {ls ls' : Array Bool} (i : Nat) {dd j dj : Nat} {b c : Bool} {op : Op} (hi : lo[i]? = some ⟨some dd, op, ty, pos, af, some (j, c)⟩) (hs : Region.noSelect lo.toArray = true)
    (hf : Region.free .any lo.toArray ls i = true) (hr : (Region.ready .any lo.toArray ls).contains i = true) (hl : ls.setIfInBounds i true = ls') (hQ : ∀ c a w, Q (.panic c) (a.put (some dd) undef) w → Q (.panic c) a w)
    (hj : (lo[j]?).bind (·.dst) = some dj) (hn : Nat.blt dj n = true) (hb : e dj = .bool b) (hc : b ≠ c) (hS : S w)
    (h : wpAnyH P .any lo.toArray Q S fuel ls' (mkA n (upd e dd undef) ds) w) : wpAnyH P .any lo.toArray Q S (fuel + 1) ls (mkA n e ds) w := by
  subst hl
  have hi : lo.toArray[i]? = _ := (List.getElem?_toArray ..).trans hi
  refine wpAnyH_take hi hs hf hr hQ (.inr ⟨by simp [Region.wanted, yielded_mkA (ds := ds) hj hn hb, hc], rfl⟩) hS ?_
  rw [put_mkA]; exact h
theorem A_done {S : World → Prop} {fuel : Nat} {ls : Array Bool} (hr : Region.ready .any ops ls = []) (h : Q .normal (mkA n e ds) w) : wpAnyH P .any ops Q S fuel ls (mkA n e ds) w := wpAnyH_done hr h fuel
def AllR (P : Program) (ops : Array Oper) (Q : Exit → Act → World → Prop) (S : World → Prop) (fuel : Nat) (ls : Array Bool) (a : Act) (w : World) (rs : List Nat) : Prop :=
  ∀ i ∈ rs, wpOp P ops Q i (fun a' w' => S w' ∧ wpAnyH P .any ops Q S fuel (ls.setIfInBounds i true) a' w') a w
theorem A_ready {S : World → Prop} {fuel : Nat} {ls : Array Bool} {i : Nat} {rs : List Nat} (hr : Region.ready .any ops ls = i :: rs) (h : AllR P ops Q S fuel ls (mkA n e ds) w (i :: rs)) :
    wpAnyH P .any ops Q S (fuel + 1) ls (mkA n e ds) w := wpAnyH_all hr (by simp) h
theorem AllR.nil {S : World → Prop} {fuel : Nat} {ls : Array Bool} {a : Act} : AllR P ops Q S fuel ls a w [] := fun i hi => by cases hi
theorem AllR.cons {S : World → Prop} {fuel : Nat} {ls : Array Bool} {a : Act} {i : Nat} {rs : List Nat}
    (h : wpOp P ops Q i (fun a' w' => S w' ∧ wpAnyH P .any ops Q S fuel (ls.setIfInBounds i true) a' w') a w) (k : AllR P ops Q S fuel ls a w rs) : AllR P ops Q S fuel ls a w (i :: rs) := fun j hj => by
  rcases List.mem_cons.1 hj with rfl | hj
  · exact h
  · exact k j hj
theorem A_op {lo : List Oper} {S : World → Prop} {fuel i dd : Nat} {ls ls' : Array Bool} {op : Op} (hi : lo[i]? = some ⟨some dd, op, ty, pos, af, none⟩) (hl : ls.setIfInBounds i true = ls')
    (h : Stp P n e ⟨some dd, op, ty, pos, af, none⟩ w fun v w' => S w' ∧ wpAnyH P .any lo.toArray Q S fuel ls' (mkA n (upd e dd v) ds) w') :
    wpOp P lo.toArray Q i (fun a' w' => S w' ∧ wpAnyH P .any lo.toArray Q S fuel (ls.setIfInBounds i true) a' w') (mkA n e ds) w := by
  subst hl
  unfold wpOp
  rw [List.getElem?_toArray, hi]
  dsimp only
  rw [if_pos (by rfl)]
  refine .inl (Stp.wp ?_)
  simpa only [put_mkA] using h
theorem A_op0 {lo : List Oper} {S : World → Prop} {fuel i : Nat} {ls ls' : Array Bool} {op : Op} (hi : lo[i]? = some ⟨none, op, ty, pos, af, none⟩) (hl : ls.setIfInBounds i true = ls')
    (h : Stp P n e ⟨none, op, ty, pos, af, none⟩ w fun v w' => S w' ∧ wpAnyH P .any lo.toArray Q S fuel ls' (mkA n e ds) w') :
    wpOp P lo.toArray Q i (fun a' w' => S w' ∧ wpAnyH P .any lo.toArray Q S fuel (ls.setIfInBounds i true) a' w') (mkA n e ds) w := by
  subst hl
  unfold wpOp
  rw [List.getElem?_toArray, hi]
  dsimp only
  rw [if_pos (by rfl)]
  exact .inl (Stp.wp h)
theorem A_opYes {lo : List Oper} {S : World → Prop} {fuel i dd j dj : Nat} {b : Bool} {ls ls' : Array Bool} {op : Op} (hi : lo[i]? = some ⟨some dd, op, ty, pos, af, some (j, b)⟩) (hl : ls.setIfInBounds i true = ls')
    (hj : (lo[j]?).bind (·.dst) = some dj) (hn : Nat.blt dj n = true) (hb : e dj = .bool b)
    (h : Stp P n e ⟨some dd, op, ty, pos, af, some (j, b)⟩ w fun v w' => S w' ∧ wpAnyH P .any lo.toArray Q S fuel ls' (mkA n (upd e dd v) ds) w') :
    wpOp P lo.toArray Q i (fun a' w' => S w' ∧ wpAnyH P .any lo.toArray Q S fuel (ls.setIfInBounds i true) a' w') (mkA n e ds) w := by
  subst hl
  unfold wpOp
  rw [List.getElem?_toArray, hi]
  dsimp only
  rw [if_pos (by simp [Region.wanted, yielded_mkA (ds := ds) hj hn hb])]
  refine .inl (Stp.wp ?_)
  simpa only [put_mkA] using h
end
end Go.Proofs.Ytlnihndjepjagaa.Gw
