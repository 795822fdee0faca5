/- The own words of these proofs for a walk: what is only read, and slices of one's own seen as such. -/
import Derived.Test.YtlnihndjepjagaaGwI
set_option linter.unusedVariables false
set_option linter.unusedSimpArgs false
namespace Go.Proofs.Ytlnihndjepjagaa.Gw
open Go Go.RowKit
section
variable {P : Program} {n : Nat} {e : Env} {w : World} {K : Value → World → Prop} {Q : Exit → Act → World → Prop} {ops : Array Oper} {rest : List Oper} {ds : List Deferred}
  {d : Option Nat} {ty : TypeId} {pos : String} {af : Array Edge} {g : Option (Nat × Bool)} {l : List SP}
/-- In what is only read, block b holds xs from place off on. -/
def RC (R : HP) (b off : Nat) (xs : List Value) : Prop := ∀ j u, xs[j]? = some u → ∃ cs T fr, R b = some (.cells cs T fr) ∧ cs[off + j]? = some u
theorem RC.cell {R : HP} {b off : Nat} {xs : List Value} (h : RC R b off xs) (hs : Sub R (hp w)) {j : Nat} {u : Value} (hj : xs[j]? = some u) : w.cell? ⟨b, off + j, none⟩ = some u := by
  obtain ⟨cs, T, fr, hb, hc⟩ := h j u hj
  have := hs _ _ hb
  rw [cell_of_row w b (off + j) cs T fr this]
  exact hc
theorem RC.mono {R R' : HP} {b off : Nat} {xs : List Value} (h : RC R b off xs) (hs : Sub R R') : RC R' b off xs := fun j u hj => by
  obtain ⟨cs, T, fr, hb, hc⟩ := h j u hj
  exact ⟨cs, T, fr, hs _ _ hb, hc⟩
theorem RC.drop {R : HP} {b off : Nat} {xs : List Value} (h : RC R b off xs) (k : Nat) : RC R b (off + k) (xs.drop k) := fun j u hj => by
  rw [List.getElem?_drop] at hj
  obtain ⟨cs, T, fr, hb, hc⟩ := h _ u hj
  exact ⟨cs, T, fr, hb, by rw [Nat.add_assoc]; exact hc⟩
theorem RC.take {R : HP} {b off : Nat} {xs : List Value} (h : RC R b off xs) (k : Nat) : RC R b off (xs.take k) := fun j u hj => by
  rw [List.getElem?_take] at hj
  split at hj
  · exact h j u hj
  · cases hj
theorem RC.cells {R : HP} {b off : Nat} {xs : List Value} (h : RC R b off xs) (hs : Sub R (hp w)) (j : Nat) {vs : List Value} (hv : (xs.drop j).take vs.length = vs) :
    ∀ i v, vs[i]? = some v → w.cell? ((Addr.mk b (off + j) none).add i) = some v := by
  intro i v hi
  rw [add_mk, Nat.add_assoc]
  refine h.cell hs ?_
  rw [← hv] at hi
  rw [List.getElem?_take] at hi
  split at hi
  · rw [List.getElem?_drop] at hi; exact hi
  · cases hi
theorem Holds.ro_at (h : Holds w l) (i : Nat) {R : HP} (hi : l[i]? = some (ro R)) : Sub R (hp w) := h.ro_sub i hi
/-- The value v is a slice of m elements (of sz cells), whose cells are xs, in what is only read. -/
def RS (R : HP) (sz : Nat) (v : Value) (m : Nat) (xs : List Value) : Prop := xs.length = m * sz ∧ ∃ a cap, v = .slice a m cap ∧ m ≤ cap ∧ (0 < m → ∃ b off, a = some ⟨b, off, none⟩ ∧ RC R b off xs)
theorem RS.nil (R : HP) (sz : Nat) : RS R sz (.slice none 0 0) 0 [] := ⟨by simp, none, 0, rfl, Nat.le_refl _, fun h => absurd h (by omega)⟩
theorem RS.mono {R R' : HP} {sz m : Nat} {v : Value} {xs : List Value} (h : RS R sz v m xs) (hs : Sub R R') : RS R' sz v m xs := by
  obtain ⟨h1, a, cap, h2, h3, h4⟩ := h
  exact ⟨h1, a, cap, h2, h3, fun hm => by obtain ⟨b, off, e1, e2⟩ := h4 hm; exact ⟨b, off, e1, e2.mono hs⟩⟩
theorem RS.len {R : HP} {sz m : Nat} {v : Value} {xs : List Value} (h : RS R sz v m xs) : ∃ a cap, v = .slice a m cap ∧ m ≤ cap := by
  obtain ⟨h1, a, cap, h2, h3, h4⟩ := h
  exact ⟨a, cap, h2, h3⟩
theorem RS.at_ {R : HP} {sz m : Nat} {v : Value} {xs : List Value} (h : RS R sz v m xs) (hm : 0 < m) : ∃ b off cap, v = .slice (some ⟨b, off, none⟩) m cap ∧ m ≤ cap ∧ RC R b off xs := by
  obtain ⟨h1, a, cap, h2, h3, h4⟩ := h
  obtain ⟨b, off, rfl, e2⟩ := h4 hm
  exact ⟨b, off, cap, h2, h3, e2⟩
theorem RS.sub {R : HP} {sz m cap k : Nat} {a : Option Addr} {xs : List Value} (h : RS R sz (.slice a m cap) m xs) (hk : k ≤ m) : RS R sz (.slice a k cap) k (xs.take (k * sz)) := by
  obtain ⟨h1, a', cap', h2, h3, h4⟩ := h
  injection h2 with e1 e2 e3
  subst e1; subst e3
  refine ⟨by rw [List.length_take, h1]; exact Nat.min_eq_left (Nat.mul_le_mul_right _ hk), a, cap, rfl, by omega, fun hm => ?_⟩
  obtain ⟨b, off, e1, e2⟩ := h4 (by omega)
  exact ⟨b, off, e1, e2.take _⟩
theorem sl_RS {T sz m : Nat} {v : Value} {xs : List Value} {h R : HP} (a : sl T sz v m xs h) (hs : Sub h R) : RS R sz v m xs := by
  rcases a with ⟨rfl, rfl, rfl⟩ | ⟨b, pr, sp, cap, rfl, e2, e3, e4, fr, hb, hf⟩
  · exact RS.nil R sz
  · refine ⟨e2, _, cap, rfl, e4, fun _ => ⟨b, pr.length, rfl, fun j u hj => ⟨_, _, _, hs _ _ hb, ?_⟩⟩⟩
    have hj' : j < xs.length := (List.getElem?_eq_some_iff.1 hj).1
    simp only [List.getElem?_toArray]
    rw [List.append_assoc, List.getElem?_append_right (by omega), show pr.length + j - pr.length = j by omega, List.getElem?_append_left hj', hj]
theorem cl_RC {b T : Nat} {xs : List Value} {h R : HP} (a : cl b T xs h) (hs : Sub h R) : RC R b 0 xs := fun j u hj => by
  obtain ⟨fr, hb, _⟩ := a
  exact ⟨_, _, _, hs _ _ hb, by simpa using hj⟩
theorem RS.src {R : HP} {sz m t e' : Nat} {v : Value} {xs : List Value} (h : RS R sz v m xs) (hs : Sub R (hp w)) (hk : P.underlying t = some (.slice e')) (h1 : ∀ u ∈ xs, u.oneCell' = true) : Src P sz t v m xs w := by
  obtain ⟨hl, a, cap, rfl, h3, h4⟩ := h
  by_cases hm : 0 < m
  · obtain ⟨b, off, rfl, e2⟩ := h4 hm
    exact Src.ofSlice w hk _ _ _ _ hl (fun j u hj => by rw [add_mk]; exact e2.cell hs hj) h1
  · have : m = 0 := by omega
    subst this
    have : xs = [] := by simpa using hl
    subst this
    cases a with
    | none => exact Src.ofNil w hk cap
    | some a => exact Src.ofSlice w hk _ _ _ _ hl (fun j u hj => by simp at hj) h1
theorem x_lenRS {R : HP} {argO : Operand} {t el : TypeId} {sz m : Nat} {v : Value} {xs : List Value} (hx : ev n e argO = v) (h : RS R sz v m xs) (hu : P.underlying t = some (.slice el)) :
    (execOp (ev n e) ⟨d, .call { callee := .builtin .len, args := #[argO], argTypes := #[t] }, ty, pos, af, g⟩).run P w = .ok (.value (.int .i64 m)) w := by
  obtain ⟨a, cap, rfl, _⟩ := h.len
  exact x_lenS hx hu
theorem x_b2sRS {R : HP} {s t el m : Nat} {x : Operand} {v : Value} {ns : List Int} (hx : ev n e x = v) (h : RS R 1 v m (bytesV ns)) (hsub : Sub R (hp w)) (hs : P.underlying s = some (.slice el)) (he : P.underlying el = some (.int .u8)) (ht : P.underlying t = some .string) :
    (execOp (ev n e) ⟨d, .convert s t x, ty, pos, af, g⟩).run P w = .ok (.value (.string (strN ns))) w := by
  have hl : ns.length = m := by have := h.1; simpa [bytesV] using this
  by_cases hm : 0 < m
  · obtain ⟨b, off, cap, rfl, _, hc⟩ := h.at_ hm
    exact x_b2s hx hs he ht hl (fun j v hj => hc.cell hsub hj)
  · obtain ⟨a, cap, rfl, _⟩ := h.len
    have : m = 0 := by omega
    subst this
    have : ns = [] := by simpa using hl
    subst this
    cases a with
    | none => exact x_b2s_nil hx hs he ht
    | some a =>
      simp only [execOp]
      rw [hx]
      refine run_v _ ?_
      rw [run_convert_bytes_string w s t el _ _ _ hs he ht]
      exact run_bytesToString w a 0 cap [] (by simp [loadCells, loadCellsFrom])
/-! ### A slice of one's own -/
theorem Holds.sl_open (h : Holds w l) (i : Nat) {T sz m : Nat} {v : Value} {xs : List Value} (hi : l[i]? = some (sl T sz v m xs)) (hm : 0 < m) :
    ∃ b pr sp cap, v = .slice (some ⟨b, pr.length, none⟩) m cap ∧ xs.length = m * sz ∧ sp.length = (cap - m) * sz ∧ m ≤ cap ∧ Holds w (l.set i (cl b T (pr ++ xs ++ sp))) := by
  rcases h.sl_at i hi with ⟨_, h0, _⟩ | h
  · omega
  · exact h
theorem x_lenSl {argO : Operand} {t el : TypeId} {T sz m : Nat} {v : Value} {xs : List Value} (hx : ev n e argO = v) (h : Holds w l) (i : Nat) (hi : l[i]? = some (sl T sz v m xs)) (hu : P.underlying t = some (.slice el)) :
    (execOp (ev n e) ⟨d, .call { callee := .builtin .len, args := #[argO], argTypes := #[t] }, ty, pos, af, g⟩).run P w = .ok (.value (.int .i64 m)) w := by
  obtain ⟨_, a, cap, rfl, _⟩ := h.sl_len i hi
  exact x_lenS hx hu
theorem Holds.sl_RSw (h : Holds w l) (i : Nat) {T sz m : Nat} {v : Value} {xs : List Value} (hi : l[i]? = some (sl T sz v m xs)) : RS (hp w) sz v m xs := by
  obtain ⟨h', s, a⟩ := Sat.at i hi h
  exact sl_RS a s
theorem x_b2sSl {s t el T m : Nat} {x : Operand} {v : Value} {ns : List Int} (hx : ev n e x = v) (h : Holds w l) (i : Nat) (hi : l[i]? = some (sl T 1 v m (bytesV ns))) (hs : P.underlying s = some (.slice el)) (he : P.underlying el = some (.int .u8)) (ht : P.underlying t = some .string) :
    (execOp (ev n e) ⟨d, .convert s t x, ty, pos, af, g⟩).run P w = .ok (.value (.string (strN ns))) w := x_b2sRS hx (h.sl_RSw i hi) (Sub.rfl' _) hs he ht
/-! ### Lending what is ours to a call that only reads -/
theorem Tri.lend {f : FuncId} {args : Array Value} {R : HP} {A : SP} {pre : List SP} {Qc : Value → List SP → Prop} (h : ∀ h0 : HP, A h0 → Dis R h0 → Tri P f args (un R h0) pre Qc) :
    Tri P f args R (A :: pre) fun v post => ∃ post', post = A :: post' ∧ Qc v post' := by
  intro w F H
  obtain ⟨h0, a, dd, H'⟩ := Holds.lend H
  refine (h h0 a dd w F H').mono fun r w' ⟨v, post, er, q, s, hh⟩ => ⟨v, A :: post, er, ⟨post, rfl, q⟩, s, ?_⟩
  exact Holds.back a dd hh
end
end Go.Proofs.Ytlnihndjepjagaa.Gw
