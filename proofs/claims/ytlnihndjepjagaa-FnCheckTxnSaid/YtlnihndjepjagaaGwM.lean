/- The own words of these proofs for a walk: lists of records that are only read, and what is ours made only readable. -/
import Derived.Test.YtlnihndjepjagaaGwJ
set_option linter.unusedVariables false
set_option linter.unusedSimpArgs false
namespace Go.Proofs.Ytlnihndjepjagaa.Gw
open Go Go.RowKit
section
variable {P : Program} {n : Nat} {e : Env} {w : World} {K : Value → World → Prop} {Q : Exit → Act → World → Prop} {ops : Array Oper} {rest : List Oper} {ds : List Deferred}
  {d : Option Nat} {ty : TypeId} {pos : String} {af : Array Edge} {g : Option (Nat × Bool)} {l : List SP}
/-- Where a slice's row lies. -/
def sb : Value → Nat
  | .slice (some ⟨b, _, _⟩) _ _ => b
  | _ => 0
def so : Value → Nat
  | .slice (some ⟨_, o, _⟩) _ _ => o
  | _ => 0
theorem RS.rc {R : HP} {sz m : Nat} {v : Value} {xs : List Value} (h : RS R sz v m xs) : RC R (sb v) (so v) xs := by
  obtain ⟨hl, a, cap, rfl, h3, h4⟩ := h
  by_cases hm : 0 < m
  · obtain ⟨b, off, rfl, e2⟩ := h4 hm
    exact e2
  · have : m = 0 := by omega
    subst this
    have : xs = [] := by simpa using hl
    subst this
    intro j u hj
    simp at hj
theorem RS.val {R : HP} {sz m : Nat} {v : Value} {xs : List Value} (h : RS R sz v m xs) (hm : 0 < m) : ∃ cap, v = .slice (some ⟨sb v, so v, none⟩) m cap := by
  obtain ⟨hl, a, cap, rfl, h3, h4⟩ := h
  obtain ⟨b, off, rfl, e2⟩ := h4 hm
  exact ⟨cap, rfl⟩
theorem RS.set_ {R : HP} {sz m m' : Nat} {v : Value} {xs xs' : List Value} (h : RS R sz v m xs) (hx : xs = xs') (hm : m = m') : RS R sz v m' xs' := by subst hx; subst hm; exact h
theorem x_idxRS {R : HP} {t el : TypeId} {x y : Operand} {m i sz bb : Nat} {v : Value} {xs : List Value} {z : Option Value} {k' : IntKind} {p : Addr} {ii : Int} (hx : ev n e x = v) (h : RS R sz v m xs) (hy : ev n e y = .int k' ii)
    (hu : P.underlying t = some (.slice el)) (hz : tin P el = some (sz, bb, z)) (h0 : 0 ≤ ii) (hi : ii < m) (hn : ii.toNat = i) (hp : (⟨sb v, so v + i * sz, none⟩ : Addr) = p) :
    (execOp (ev n e) ⟨d, .indexAddr t x y, ty, pos, af, g⟩).run P w = .ok (.value (.pointer (some p))) w := by
  obtain ⟨cap, hv⟩ := h.val (by omega)
  exact x_indexAddr (hx.trans hv) hy hu hz h0 hi hn hp
theorem fm_len {α : Type} {f : α → List Value} {n : Nat} (hn : ∀ x, (f x).length = n) (l : List α) : (l.flatMap f).length = l.length * n := by
  induction l with
  | nil => simp
  | cons a l ih => rw [List.flatMap_cons, List.length_append, hn, ih, List.length_cons, Nat.add_mul]; omega
theorem fm_drop {α : Type} {f : α → List Value} {n : Nat} (hn : ∀ x, (f x).length = n) : ∀ {l : List α} {k : Nat} {x : α}, l[k]? = some x → (l.flatMap f).drop (k * n) = f x ++ (l.drop (k + 1)).flatMap f
  | [], k, x, h => by simp at h
  | a :: l, 0, x, h => by
    simp only [List.getElem?_cons_zero, Option.some.injEq] at h
    subst h
    simp
  | a :: l, k + 1, x, h => by
    have ih := fm_drop hn (l := l) (k := k) (x := x) (by simpa using h)
    rw [List.flatMap_cons, Nat.add_mul, Nat.one_mul, Nat.add_comm, ← List.drop_drop, List.drop_left' (hn a), ih]
    simp
theorem fm_cell {α : Type} {f : α → List Value} {n : Nat} (hn : ∀ x, (f x).length = n) {l : List α} {k : Nat} {x : α} (hk : l[k]? = some x) {i : Nat} {u : Value} (hu : (f x)[i]? = some u) : (l.flatMap f)[k * n + i]? = some u := by
  rw [← List.getElem?_drop, fm_drop hn hk, List.getElem?_append_left (List.getElem?_eq_some_iff.1 hu).1]
  exact hu
theorem fm_cells {α : Type} {f : α → List Value} {n : Nat} (hn : ∀ x, (f x).length = n) {l : List α} {k : Nat} {x : α} (hk : l[k]? = some x) {i : Nat} {vs : List Value} (hv : ((f x).drop i).take vs.length = vs) :
    ((l.flatMap f).drop (k * n + i)).take vs.length = vs := by
  have hlen : vs.length ≤ ((f x).drop i).length := by
    have := congrArg List.length hv
    rw [List.length_take] at this
    omega
  rw [← List.drop_drop, fm_drop hn hk, List.drop_append, List.take_append_of_le_length hlen]
  exact hv
theorem elem_at {α : Type} (l : List α) (k : Nat) (h : k < l.length) : ∃ x, l[k]? = some x ∧ x ∈ l := ⟨l[k], List.getElem?_eq_getElem h, List.getElem_mem h⟩
theorem Holds.freeze (h : Holds w l) (i : Nat) {A : SP} (hi : l[i]? = some A) : ∃ R0 : HP, A R0 ∧ Holds w (l.set i (ro R0)) := by
  obtain ⟨h1, k, s, t, dd, a, r⟩ := Sat.bring i hi h
  refine ⟨h1, a, Sat.back i (A := ro h1) (by simp [(List.getElem?_eq_some_iff.1 hi).1]) ?_⟩
  rw [List.eraseIdx_set_eq]
  exact ⟨h1, k, s, t, dd, Sub.rfl' _, r⟩
theorem Holds.merge {R1 R2 : HP} (h : Holds w (ro R1 :: ro R2 :: l)) : ∃ R', Sub R1 R' ∧ Sub R2 R' ∧ Holds w (ro R' :: l) := by
  obtain ⟨h0, a, dd, hh⟩ := Holds.lend h
  exact ⟨un R1 h0, Sub.un_left _ _, Sub.trans' a (Sub.un_right dd), hh⟩
/-- A piece of ours goes to what is only read beside. -/
theorem Holds.gift {R1 : HP} {A : SP} (h : Holds w (ro R1 :: A :: l)) : ∃ R', Sub R1 R' ∧ (∃ R0, A R0 ∧ Sub R0 R') ∧ Holds w (ro R' :: l) := by
  obtain ⟨h0, a, dd, hh⟩ := Holds.lend h
  exact ⟨un R1 h0, Sub.un_left _ _, ⟨h0, a, Sub.un_right dd⟩, hh⟩
theorem Holds.add_ro (h : Holds w l) : Holds w (ro (fun _ => none) :: l) := Sat.add_free (fun _ b o e => by cases e) h
theorem all_of {α : Type} {p : α → Bool} {l : List α} (h : ∀ i x, i < l.length → l[i]? = some x → p x = true) : l.all p = true := by
  rw [List.all_eq_true]
  intro x hx
  obtain ⟨i, hi, e⟩ := List.getElem_of_mem hx
  exact h i x hi (by rw [List.getElem?_eq_getElem hi, e])
theorem not_all {α : Type} {p : α → Bool} {l : List α} {k : Nat} {x : α} (hk : l[k]? = some x) (hp : p x = false) : l.all p = false := by
  rw [List.all_eq_false]
  exact ⟨x, List.mem_of_getElem? hk, by simp [hp]⟩
theorem RS.one {R : HP} {sz m : Nat} {v : Value} {xs : List Value} (h : RS R sz v m xs) : v.oneCell' = true := by
  obtain ⟨a, cap, rfl, _⟩ := h.len
  rfl
theorem Holds.sl_one (h : Holds w l) (i : Nat) {T sz m : Nat} {v : Value} {xs : List Value} (hi : l[i]? = some (sl T sz v m xs)) : v.oneCell' = true := by
  obtain ⟨_, a, cap, rfl, _⟩ := h.sl_len i hi
  rfl
/-- Of what a call leaves nothing is kept. -/
theorem Tri.forget {f : FuncId} {args : Array Value} {R : HP} {pre : List SP} {Qc : Value → List SP → Prop} (h : Tri P f args R pre Qc) : Tri P f args R pre fun v post => (∃ post', Qc v post') ∧ post = [] := by
  intro w F H
  refine (h w F H).mono fun r w' ⟨v, post, er, q, s, hh⟩ => ⟨v, [], er, ⟨⟨post, q⟩, rfl⟩, s, ?_⟩
  exact Sat.cons_map (fun g hg => by obtain ⟨_, k, _, t, _, _, r⟩ := Sat.append.1 hg; exact r.mono t) hh
/-! ### A guard on what was not done -/
theorem yielded_undef {lo : List Oper} {j dj : Nat} (hj : (lo[j]?).bind (·.dst) = some dj) (hn : Nat.blt dj n = true) (hb : e dj = undef) : yielded lo.toArray (mkA n e ds).tmps j = none := by
  unfold yielded
  rw [List.getElem?_toArray, hj]
  have hn' : dj < n := by simpa using hn
  simp only [Option.bind_some, mkA]
  simp [hn', hb, undef]
theorem S_noU {lo : List Oper} {dd j dj : Nat} {c : Bool} {op : Op} (hj : (lo[j]?).bind (·.dst) = some dj) (hn : Nat.blt dj n = true) (hb : e dj = undef)
    (h : wpList P lo.toArray Q rest (mkA n (upd e dd undef) ds) w) :
    wpList P lo.toArray Q (⟨some dd, op, ty, pos, af, some (j, c)⟩ :: rest) (mkA n e ds) w :=
  wpList_step fun K' hK => by
    rw [if_neg (by simp [Region.wanted, yielded_undef (ds := ds) hj hn hb])]
    dsimp only
    rw [put_mkA]
    exact hK _ _ h
theorem A_takeNoU {lo : List Oper} {S : World → Prop} {fuel : Nat} {ls ls' : Array Bool} (i : Nat) {dd j dj : Nat} {c : Bool} {op : Op} (hi : lo[i]? = some ⟨some dd, op, ty, pos, af, some (j, c)⟩) (hs : Region.noSelect lo.toArray = true)
    (hf : Region.free .any lo.toArray ls i = true) (hr : (Region.ready .any lo.toArray ls).contains i = true) (hl : ls.setIfInBounds i true = ls') (hQ : ∀ c a w, Q (.panic c) (a.put (some dd) undef) w → Q (.panic c) a w)
    (hj : (lo[j]?).bind (·.dst) = some dj) (hn : Nat.blt dj n = true) (hb : e dj = undef) (hS : S w)
    (h : wpAnyH P .any lo.toArray Q S fuel ls' (mkA n (upd e dd undef) ds) w) : wpAnyH P .any lo.toArray Q S (fuel + 1) ls (mkA n e ds) w := by
  subst hl
  have hi : lo.toArray[i]? = _ := (List.getElem?_toArray ..).trans hi
  refine wpAnyH_take hi hs hf hr hQ (.inr ⟨by simp [Region.wanted, yielded_undef (ds := ds) hj hn hb], rfl⟩) hS ?_
  rw [put_mkA]; exact h
end
end Go.Proofs.Ytlnihndjepjagaa.Gw
