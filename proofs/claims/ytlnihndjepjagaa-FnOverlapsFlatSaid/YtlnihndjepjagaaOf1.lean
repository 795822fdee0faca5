/- Words, and proved steps, on which the proof leans. -/
import Derived.WalkKit
import Derived.WalkSpells
import Derived.WalkLawsBesides
import Derived.KernelRfl
import Derived.IntWalk
import Derived.LoopN
import Derived.OrdersHeld
import Derived.Deep.AppendSrc
import Derived.Lib.ConvBytes
import Derived.Recover
import Derived.Defers
import Derived.ProofKit
import Derived.SizedLaws
import Derived.Carry
import Derived.Laws.StructEq
import Derived.Test.YtlnihndjepjagaaProg
import Derived.Laws.IdiomCopy
import Derived.Maps.Keyed
import Derived.MapKept
import Derived.Lib.Bytealg
import Derived.Lib.AppendZerosOnto
import Derived.Lib.Overlaps
import Derived.Maps.RangeRun
namespace Go.Proofs.Ytlnihndjepjagaa.Gw
open Go Go.RowKit

theorem cast1 {α : Sort _} {P : α → Prop} {c c' : α} (h : c = c') (x : P c) : P c' := h ▸ x
/-! ### Pieces of a heap -/
abbrev HP := Nat → Option Obj
abbrev SP := HP → Prop
def Sub (h g : HP) : Prop := ∀ b o, h b = some o → g b = some o
def Dis (h g : HP) : Prop := ∀ b, h b = none ∨ g b = none
def un (h k : HP) : HP := fun b => match h b with | some o => some o | none => k b

theorem Sub.rfl' (h : HP) : Sub h h := fun _ _ e => e
theorem Sub.trans' {a b c : HP} (h : Sub a b) (k : Sub b c) : Sub a c := fun x o e => k x o (h x o e)
theorem Sub.un_left (h k : HP) : Sub h (un h k) := fun b o e => by simp [un, e]
theorem Sub.un_right {h k : HP} (d : Dis h k) : Sub k (un h k) := fun b o e => by
  rcases d b with d | d
  · simp [un, d, e]
  · rw [d] at e; cases e
theorem Sub.un_lub {h k g : HP} (a : Sub h g) (b : Sub k g) : Sub (un h k) g := fun x o e => by
  unfold un at e
  cases hx : h x with
  | none => rw [hx] at e; exact b x o e
  | some y => rw [hx] at e; cases e; exact a x _ hx
theorem Dis.symm {h k : HP} (d : Dis h k) : Dis k h := fun b => (d b).symm
theorem Dis.sub_left {h h' k : HP} (d : Dis h k) (s : Sub h' h) : Dis h' k := fun b => by
  rcases d b with e | e
  · left
    cases hx : h' b with
    | none => rfl
    | some o => rw [s b o hx] at e; cases e
  · exact .inr e
theorem Dis.sub_right {h k k' : HP} (d : Dis h k) (s : Sub k' k) : Dis h k' := (d.symm.sub_left s).symm
theorem Dis.un_left {h k g : HP} (a : Dis h g) (b : Dis k g) : Dis (un h k) g := fun x => by
  rcases a x with e | e
  · rcases b x with e' | e'
    · left; simp [un, e, e']
    · exact .inr e'
  · exact .inr e

def Sat : List SP → HP → Prop
  | [], _ => True
  | A :: l, g => ∃ h k, Sub h g ∧ Sub k g ∧ Dis h k ∧ A h ∧ Sat l k

theorem Sat.mono {l : List SP} {g g' : HP} (s : Sub g g') (h : Sat l g) : Sat l g' := by
  cases l with
  | nil => trivial
  | cons A l => obtain ⟨h, k, a, b, d, e, f⟩ := h; exact ⟨h, k, a.trans' s, b.trans' s, d, e, f⟩
theorem Sat.swap {A B : SP} {l : List SP} {g : HP} (h : Sat (A :: B :: l) g) : Sat (B :: A :: l) g := by
  obtain ⟨h1, k1, s1, t1, d1, a1, h2, k2, s2, t2, d2, a2, r⟩ := h
  refine ⟨h2, un h1 k2, s2.trans' t1, Sub.un_lub s1 (t2.trans' t1), ?_, a2, h1, k2, Sub.un_left _ _, Sub.un_right (d1.sub_right t2), d1.sub_right t2, a1, r⟩
  exact (Dis.un_left (d1.sub_right s2) d2.symm).symm
theorem Sat.tail {A : SP} {l : List SP} {g : HP} (h : Sat (A :: l) g) : Sat l g := by
  obtain ⟨_, k, _, t, _, _, r⟩ := h
  exact r.mono t
theorem Sat.cons_map {A : SP} {l l' : List SP} (f : ∀ g, Sat l g → Sat l' g) {g : HP} (h : Sat (A :: l) g) : Sat (A :: l') g := by
  obtain ⟨h1, k, s, t, d, a, r⟩ := h
  exact ⟨h1, k, s, t, d, a, f k r⟩
theorem Sat.head_map {A B : SP} {l : List SP} (f : ∀ h, A h → B h) {g : HP} (h : Sat (A :: l) g) : Sat (B :: l) g := by
  obtain ⟨h1, k, s, t, d, a, r⟩ := h
  exact ⟨h1, k, s, t, d, f _ a, r⟩
theorem Sat.bring {l : List SP} : ∀ (i : Nat) {A : SP} {g : HP}, l[i]? = some A → Sat l g → Sat (A :: l.eraseIdx i) g := by
  induction l with
  | nil => intro i A g hi; simp at hi
  | cons B l ih =>
    intro i A g hi h
    cases i with
    | zero => simp at hi; subst hi; exact h
    | succ i =>
      have hi' : l[i]? = some A := by simpa using hi
      exact Sat.swap (Sat.cons_map (fun g' h' => ih i hi' h') h)
theorem Sat.back {l : List SP} : ∀ (i : Nat) {A : SP} {g : HP}, l[i]? = some A → Sat (A :: l.eraseIdx i) g → Sat l g := by
  induction l with
  | nil => intro i A g hi; simp at hi
  | cons B l ih =>
    intro i A g hi h
    cases i with
    | zero => simp at hi; subst hi; exact h
    | succ i =>
      have hi' : l[i]? = some A := by simpa using hi
      exact Sat.cons_map (fun g' h' => ih i hi' h') (Sat.swap h)
theorem Sat.set {l : List SP} (i : Nat) {A B : SP} (hi : l[i]? = some A) {g g' : HP} (h : Sat l g)
    (f : ∀ h k, Sub h g → Sub k g → Dis h k → A h → ∃ h', Sub h' g' ∧ Sub k g' ∧ Dis h' k ∧ B h') : Sat (l.set i B) g' := by
  obtain ⟨h1, k, s, t, d, a, r⟩ := Sat.bring i hi h
  obtain ⟨h', s', t', d', b⟩ := f h1 k s t d a
  have hl : i < l.length := by
    rcases Nat.lt_or_ge i l.length with x | x
    · exact x
    · rw [List.getElem?_eq_none x] at hi; cases hi
  refine Sat.back i (A := B) (by simp [hl]) ?_
  have he : (l.set i B).eraseIdx i = l.eraseIdx i := by
    rw [List.eraseIdx_set_eq]
  rw [he]
  exact ⟨h', k, s', t', d', b, r⟩
theorem Sat.at {l : List SP} (i : Nat) {A : SP} (hi : l[i]? = some A) {g : HP} (h : Sat l g) : ∃ h', Sub h' g ∧ A h' := by
  obtain ⟨h1, _, s, _, _, a, _⟩ := Sat.bring i hi h
  exact ⟨h1, s, a⟩
theorem Sat.append {l m : List SP} {g : HP} : Sat (l ++ m) g ↔ ∃ h k, Sub h g ∧ Sub k g ∧ Dis h k ∧ Sat l h ∧ Sat m k := by
  induction l generalizing g with
  | nil =>
    constructor
    · intro h
      exact ⟨(fun _ => none), g, (fun _ _ e => by cases e), Sub.rfl' g, (fun _ => Or.inl rfl), trivial, h⟩
    · rintro ⟨_, k, _, t, _, _, h⟩
      exact h.mono t
  | cons A l ih =>
    constructor
    · rintro ⟨h1, k1, s, t, d, a, r⟩
      obtain ⟨h2, k2, s2, t2, d2, r1, r2⟩ := ih.1 r
      refine ⟨un h1 h2, k2, Sub.un_lub s (s2.trans' t), t2.trans' t, Dis.un_left (d.sub_right t2) d2, ?_, r2⟩
      exact ⟨h1, h2, Sub.un_left _ _, Sub.un_right (d.sub_right s2), d.sub_right s2, a, r1⟩
    · rintro ⟨h, k, s, t, d, ⟨h1, h2, s1, s2, d1, a, r1⟩, r2⟩
      refine ⟨h1, un h2 k, s1.trans' s, Sub.un_lub (s2.trans' s) t, ?_, a, ih.2 ⟨h2, k, Sub.un_left _ _, Sub.un_right (d.sub_left s2), d.sub_left s2, r1, r2⟩⟩
      exact (Dis.un_left d1.symm ((d.sub_left s1).symm)).symm

/-! ### Worlds -/
def hp (w : World) : HP := fun b => w.heap[b]?
def Holds (w : World) (l : List SP) : Prop := Sat l (hp w)
structure Same (w w' : World) : Prop where
  os : w'.os = w.os
  tape : w'.tape = w.tape
  output : w'.output = w.output
theorem Same.refl (w : World) : Same w w := ⟨rfl, rfl, rfl⟩
theorem Same.trans {a b c : World} (h : Same a b) (k : Same b c) : Same a c := ⟨k.os.trans h.os, k.tape.trans h.tape, k.output.trans h.output⟩
theorem Same.alloc (w : World) (o : Obj) : Same w (w.alloc o) := ⟨rfl, rfl, rfl⟩
theorem Same.setCell (w : World) (a : Addr) (v : Value) : Same w (w.setCell a v) := ⟨rfl, rfl, rfl⟩
theorem Same.drew (w : World) : Same w w.drew := ⟨rfl, rfl, rfl⟩

def cl (b : Nat) (T : TypeId) (cs : List Value) : SP := fun h => ∃ fr : Nat × Nat, h b = some (.cells cs.toArray T fr) ∧ ∀ i, i < cs.length → ¬ (fr.1 ≤ i ∧ i < fr.2)
def ob (b : Nat) (o : Obj) : SP := fun h => h b = some o
def ro (R : HP) : SP := fun h => Sub R h
def pu (p : Prop) : SP := fun _ => p

theorem Holds.bring {w : World} {l : List SP} (h : Holds w l) (i : Nat) {A : SP} (hi : l[i]? = some A) : Holds w (A :: l.eraseIdx i) := Sat.bring i hi h
theorem Holds.tail {w : World} {A : SP} {l : List SP} (h : Holds w (A :: l)) : Holds w l := Sat.tail h
theorem Holds.drew {w : World} {l : List SP} (h : Holds w l) : Holds w.drew l := h
theorem Holds.cl_block {w : World} {l : List SP} (h : Holds w l) (i : Nat) {b : Nat} {T : TypeId} {cs : List Value} (hi : l[i]? = some (cl b T cs)) :
    ∃ fr : Nat × Nat, w.heap[b]? = some (.cells cs.toArray T fr) ∧ ∀ i, i < cs.length → ¬ (fr.1 ≤ i ∧ i < fr.2) := by
  obtain ⟨h', s, fr, e, hf⟩ := Sat.at i hi h
  exact ⟨fr, s _ _ e, hf⟩
theorem Holds.cl_cell {w : World} {l : List SP} (h : Holds w l) (i : Nat) {b : Nat} {T : TypeId} {cs : List Value} (hi : l[i]? = some (cl b T cs)) {k : Nat} {v : Value}
    (hk : cs[k]? = some v) : w.cell? ⟨b, k, none⟩ = some v := by
  obtain ⟨fr, e, _⟩ := h.cl_block i hi
  rw [cell_of_row w b k _ T fr e]
  simpa using hk
theorem Holds.cl_frozen {w : World} {l : List SP} (h : Holds w l) (i : Nat) {b : Nat} {T : TypeId} {cs : List Value} (hi : l[i]? = some (cl b T cs)) {k : Nat} (hk : k < cs.length) :
    w.frozen? ⟨b, k, none⟩ = false := by
  obtain ⟨fr, e, hf⟩ := h.cl_block i hi
  simp only [World.frozen?, e]
  have := hf k hk
  simp only [Bool.and_eq_false_iff, decide_eq_false_iff_not]
  omega
theorem Holds.ro_sub {w : World} {l : List SP} (h : Holds w l) (i : Nat) {R : HP} (hi : l[i]? = some (ro R)) : Sub R (hp w) := by
  obtain ⟨h', s, e⟩ := Sat.at i hi h
  exact Sub.trans' e s
theorem Holds.pu {w : World} {l : List SP} (h : Holds w l) (i : Nat) {p : Prop} (hi : l[i]? = some (pu p)) : p := by
  obtain ⟨h', s, e⟩ := Sat.at i hi h
  exact e
theorem Holds.ex {w : World} {α : Type} {A : α → SP} {l : List SP} (h : Holds w ((fun h => ∃ x, A x h) :: l)) : ∃ x, Holds w (A x :: l) := by
  obtain ⟨h1, k, s, t, d, ⟨x, a⟩, r⟩ := h
  exact ⟨x, h1, k, s, t, d, a, r⟩
def upb (g : HP) (b : Nat) (o : Obj) : HP := fun c => if c = b then some o else g c
theorem hp_setBlock (w w' : World) (b : Nat) (o : Obj) (hb : w'.heap[b]? = some o) (hc : ∀ c, c ≠ b → w'.heap[c]? = w.heap[c]?) : hp w' = upb (hp w) b o := by
  funext c
  by_cases h : c = b
  · subst h; simp [upb, hp, hb]
  · simp [upb, hp, h, hc c h]
theorem Sat.upb_at {l : List SP} (i : Nat) {A B : SP} (hi : l[i]? = some A) {g : HP} (h : Sat l g) {b : Nat} {o : Obj}
    (hA : ∀ h, A h → ∃ x, h b = some x) (hB : ∀ h, A h → B (upb h b o)) : Sat (l.set i B) (upb g b o) := by
  refine Sat.set i hi h fun h k s t d a => ⟨upb h b o, ?_, ?_, ?_, hB h a⟩
  · intro c x e
    unfold upb at e ⊢
    split
    · rename_i hc; rw [if_pos hc] at e; exact e
    · rename_i hc; rw [if_neg hc] at e; exact s c x e
  · intro c x e
    unfold upb
    split
    · rename_i hc
      subst hc
      obtain ⟨y, hy⟩ := hA h a
      rcases d c with z | z
      · rw [z] at hy; cases hy
      · rw [z] at e; cases e
    · exact t c x e
  · intro c
    unfold upb
    split
    · rename_i hc
      subst hc
      obtain ⟨y, hy⟩ := hA h a
      rcases d c with z | z
      · rw [z] at hy; cases hy
      · exact .inr z
    · exact d c
theorem Sat.upb_new {l : List SP} {g : HP} (h : Sat l g) {b : Nat} {o : Obj} (hb : g b = none) {B : SP} (hB : B (fun c => if c = b then some o else none)) : Sat (B :: l) (upb g b o) := by
  refine ⟨fun c => if c = b then some o else none, g, ?_, ?_, ?_, hB, h⟩
  · intro c x e
    unfold upb
    dsimp only at e
    split
    · rename_i hc; rw [if_pos hc] at e; exact e
    · rename_i hc; rw [if_neg hc] at e; cases e
  · intro c x e
    unfold upb
    split
    · rename_i hc; subst hc; rw [hb] at e; cases e
    · exact e
  · intro c
    by_cases hc : c = b
    · subst hc; exact .inr hb
    · simp [hc]

theorem Holds.setCell {w : World} {l : List SP} (h : Holds w l) (i : Nat) {b : Nat} {T : TypeId} {cs : List Value} (hi : l[i]? = some (cl b T cs)) (k : Nat) (v : Value) :
    Holds (w.setCell ⟨b, k, none⟩ v) (l.set i (cl b T (cs.set k v))) := by
  obtain ⟨fr, e, _⟩ := h.cl_block i hi
  have hw : hp (w.setCell ⟨b, k, none⟩ v) = upb (hp w) b (.cells (cs.set k v).toArray T fr) := by
    refine hp_setBlock _ _ _ _ ?_ (fun c hc => heap_setCell_other _ _ _ _ hc)
    simp only [World.setCell, Array.getElem?_modify, if_true, e, Option.map_some]
    simp
  unfold Holds
  rw [hw]
  obtain ⟨h0, s0, fr0, e0, hf0⟩ := Sat.at i hi h
  have efr : fr0 = fr := by
    have := s0 _ _ e0
    simp only [hp, e] at this
    injection this with this
    injection this with _ _ this
    exact this.symm
  refine Sat.upb_at i hi h (fun h ⟨fr', e', _⟩ => ⟨_, e'⟩) fun h ⟨fr', e', hf'⟩ => ⟨fr, by simp [upb], ?_⟩
  subst efr
  simpa using hf0
theorem Holds.alloc {w : World} {l : List SP} (h : Holds w l) (cs : Array Value) (T : TypeId) : Holds (w.alloc (.cells cs T)) (cl w.heap.size T cs.toList :: l) := by
  have hw : hp (w.alloc (.cells cs T)) = upb (hp w) w.heap.size (.cells cs T) :=
    hp_setBlock _ _ _ _ (heap_alloc_new w _) (fun c hc => by
      rcases Nat.lt_or_ge c w.heap.size with x | x
      · exact heap_alloc_old w _ x
      · have h1 : (w.alloc (.cells cs T)).heap.size ≤ c := by simp; omega
        rw [Array.getElem?_eq_none h1, Array.getElem?_eq_none x])
  unfold Holds
  rw [hw]
  exact Sat.upb_new h (by simp [hp]) ⟨(0, 0), by simp, by simp⟩
theorem Holds.allocOb {w : World} {l : List SP} (h : Holds w l) (o : Obj) : Holds (w.alloc o) (ob w.heap.size o :: l) := by
  have hw : hp (w.alloc o) = upb (hp w) w.heap.size o :=
    hp_setBlock _ _ _ _ (heap_alloc_new w _) (fun c hc => by
      rcases Nat.lt_or_ge c w.heap.size with x | x
      · exact heap_alloc_old w _ x
      · have h1 : (w.alloc o).heap.size ≤ c := by simp; omega
        rw [Array.getElem?_eq_none h1, Array.getElem?_eq_none x])
  unfold Holds
  rw [hw]
  exact Sat.upb_new h (by simp [hp]) (by simp [ob])
/-! ### Lending: a block becomes one that is only read, and is taken back -/
theorem Holds.lend {w : World} {l : List SP} {R : HP} {A : SP} (h : Holds w (ro R :: A :: l)) : ∃ h0 : HP, A h0 ∧ Dis R h0 ∧ Holds w (ro (un R h0) :: l) := by
  obtain ⟨h1, k1, s1, t1, d1, a1, h2, k2, s2, t2, d2, a2, r⟩ := h
  refine ⟨h2, a2, (d1.sub_left a1).sub_right s2, un h1 h2, k2, Sub.un_lub s1 (s2.trans' t1), t2.trans' t1, Dis.un_left (d1.sub_right t2) d2, ?_, r⟩
  exact Sub.un_lub (a1.trans' (Sub.un_left _ _)) (Sub.un_right (d1.sub_right s2))
theorem Holds.back {w : World} {l : List SP} {R h0 : HP} {A : SP} (hA : A h0) (hd : Dis R h0) (h : Holds w (ro (un R h0) :: l)) : Holds w (ro R :: A :: l) := by
  obtain ⟨h1, k1, s1, t1, d1, a1, r⟩ := h
  have sR : Sub R h1 := (Sub.un_left _ _).trans' a1
  have s0 : Sub h0 h1 := (Sub.un_right hd).trans' a1
  refine ⟨R, un h0 k1, sR.trans' s1, Sub.un_lub (s0.trans' s1) t1, ?_, Sub.rfl' R, h0, k1, Sub.un_left _ _, Sub.un_right (d1.sub_left s0), d1.sub_left s0, hA, r⟩
  exact (Dis.un_left hd.symm (d1.sub_left sR).symm).symm

/-! ### Calls -/
def Tri (P : Program) (f : FuncId) (args : Array Value) (R : HP) (pre : List SP) (Q : Value → List SP → Prop) : Prop :=
  ∀ (w : World) (F : List SP), Holds w (ro R :: (pre ++ F)) →
    Calls P f args w fun e w' => ∃ v post, e = .returned v ∧ Q v post ∧ Same w w' ∧ Holds w' (ro R :: (post ++ F))
theorem Tri.mono {P : Program} {f : FuncId} {args : Array Value} {R : HP} {pre : List SP} {Q Q' : Value → List SP → Prop} (h : Tri P f args R pre Q) (hq : ∀ v l, Q v l → Q' v l) :
    Tri P f args R pre Q' := fun w F hh => (h w F hh).mono fun _ _ ⟨v, post, e, q, s, k⟩ => ⟨v, post, e, hq _ _ q, s, k⟩

#print axioms Holds.back
end Go.Proofs.Ytlnihndjepjagaa.Gw
set_option linter.unusedVariables false
set_option linter.unusedSimpArgs false
namespace Go.Proofs.Ytlnihndjepjagaa.Gw
open Go Go.RowKit

abbrev Env := Nat → Value
def upd (e : Env) (d : Nat) (v : Value) : Env := fun t => bif Nat.beq t d then v else e t
def mkA (n : Nat) (e : Env) (ds : List Deferred) : Act := ⟨Array.ofFn (n := n) fun i => e i, ds⟩
def ev (n : Nat) (e : Env) : Operand → Value
  | .tmp t => bif Nat.blt t n then e t else undef
  | .const v => v
  | .global g => .pointer (some ⟨g, 0, none⟩)
  | .func f => .func (.func f) #[] #[]
theorem upd_same (e : Env) (d : Nat) (v : Value) : upd e d v d = v := by simp [upd]
theorem upd_ne (e : Env) {d t : Nat} (v : Value) (h : t ≠ d) : upd e d v t = e t := by
  simp only [upd]
  have : Nat.beq t d = false := by
    cases hb : Nat.beq t d with
    | false => rfl
    | true => exact absurd (Nat.eq_of_beq_eq_true hb) h
  rw [this]; rfl
theorem upd_id {e : Env} {d : Nat} {v : Value} (h : e d = v) : upd e d v = e := by
  funext t
  by_cases ht : t = d
  · subst ht; rw [upd_same, h]
  · rw [upd_ne e v ht]
theorem ch {E C : Env} {d : Nat} {v : Value} (h : E = C) (hv : E d = v) : E = upd C d v := by subst h; exact (upd_id hv).symm
theorem eval_mkA (n : Nat) (e : Env) (ds : List Deferred) : (mkA n e ds).eval = ev n e := by
  funext x
  cases x with
  | tmp t =>
    simp only [Act.eval, mkA, ev]
    by_cases h : t < n
    · have h' : Nat.blt t n = true := by simpa using h
      rw [h']
      simp [Array.getD, h]
    · have h' : Nat.blt t n = false := by
        cases hb : Nat.blt t n with
        | false => rfl
        | true => exact absurd (by simpa using hb) h
      rw [h']
      simp [Array.getD, h]
  | const v => rfl
  | global g => rfl
  | func f => rfl
theorem put_mkA (n : Nat) (e : Env) (ds : List Deferred) (d : Nat) (v : Value) : (mkA n e ds).put (some d) v = mkA n (upd e d v) ds := by
  simp only [Act.put, mkA]
  congr 1
  apply Array.ext
  · simp
  · intro i h1 h2
    simp only [Array.getElem_ofFn]
    by_cases h : d = i
    · subst h; rw [upd_same]; simp
    · rw [upd_ne _ _ (Ne.symm h), Array.getElem_setIfInBounds_ne (by simpa using h2) h, Array.getElem_ofFn]
theorem mkA_args (al : List Value) (n : Nat) (h : al.length ≤ n) :
    ({ tmps := al.toArray ++ Array.replicate (n - al.toArray.size) undef, defers := [] } : Act) = mkA n (fun t => al.getD t undef) [] := by
  unfold mkA
  congr 1
  apply Array.ext
  · simp; omega
  · intro i h1 h2
    simp only [Array.getElem_ofFn, List.getD]
    by_cases hi : i < al.length
    · rw [Array.getElem_append_left (by simpa using hi)]
      simp [hi]
    · rw [Array.getElem_append_right (by simpa using hi)]
      simp [hi]

/-! ### One operation -/
def Stp (P : Program) (n : Nat) (e : Env) (o : Oper) (w : World) (K : Value → World → Prop) : Prop :=
  (∃ v w', (execOp (ev n e) o).run P w = .ok (.value v) w' ∧ K v w') ∨
  (∃ w', (execOp (ev n e) o).run P w = .ok .skip w' ∧ K undef w') ∨
  (∃ f args w', (execOp (ev n e) o).run P w = .ok (.enter f args) w' ∧ Calls P f args w' fun r w'' => ∃ v, r = .returned v ∧ K v w'')
section
variable {P : Program} {n : Nat} {e : Env} {w : World} {K : Value → World → Prop} {Q : Exit → Act → World → Prop} {ops : Array Oper} {rest : List Oper} {ds : List Deferred}
  {d : Option Nat} {ty : TypeId} {pos : String} {af : Array Edge} {g : Option (Nat × Bool)}

theorem Stp.wp {o : Oper} {K' : Act → World → Prop} (h : Stp P n e o w fun v w' => K' ((mkA n e ds).put o.dst v) w') : o.wp P (mkA n e ds) w K' Q := by
  unfold Oper.wp
  rw [eval_mkA]
  rcases h with ⟨v, w', hr, hk⟩ | ⟨w', hr, hk⟩ | ⟨f, args, w', hr, hk⟩
  · rw [hr]; exact hk
  · rw [hr]; exact hk
  · rw [hr]
    show Calls P f args w' _
    exact hk.mono fun r w'' ⟨v, er, hv⟩ => by subst er; exact hv
theorem S_list {dd : Nat} {op : Op} (h : Stp P n e ⟨some dd, op, ty, pos, af, none⟩ w fun v w' => wpList P ops Q rest (mkA n (upd e dd v) ds) w') :
    wpList P ops Q (⟨some dd, op, ty, pos, af, none⟩ :: rest) (mkA n e ds) w :=
  wpList_plain rfl fun K' hK => Stp.wp (by
    refine Or.elim h (fun ⟨v, w', hr, hk⟩ => .inl ⟨v, w', hr, ?_⟩) fun h => h.elim (fun ⟨w', hr, hk⟩ => .inr (.inl ⟨w', hr, ?_⟩)) fun ⟨f, args, w', hr, hk⟩ => .inr (.inr ⟨f, args, w', hr, ?_⟩)
    · dsimp only; rw [put_mkA]; exact hK _ _ hk
    · dsimp only; rw [put_mkA]; exact hK _ _ hk
    · exact hk.mono fun r w'' ⟨v, er, hv⟩ => ⟨v, er, by dsimp only; rw [put_mkA]; exact hK _ _ hv⟩)
theorem S_list0 {op : Op} (h : Stp P n e ⟨none, op, ty, pos, af, none⟩ w fun _ w' => wpList P ops Q rest (mkA n e ds) w') :
    wpList P ops Q (⟨none, op, ty, pos, af, none⟩ :: rest) (mkA n e ds) w :=
  wpList_plain rfl fun K' hK => Stp.wp (by
    refine Or.elim h (fun ⟨v, w', hr, hk⟩ => .inl ⟨v, w', hr, hK _ _ hk⟩) fun h => h.elim (fun ⟨w', hr, hk⟩ => .inr (.inl ⟨w', hr, hK _ _ hk⟩)) fun ⟨f, args, w', hr, hk⟩ => .inr (.inr ⟨f, args, w', hr, ?_⟩)
    exact hk.mono fun r w'' ⟨v, er, hv⟩ => ⟨v, er, hK _ _ hv⟩)

theorem yielded_mkA {lo : List Oper} {j dj : Nat} {b : Bool} (hj : (lo[j]?).bind (·.dst) = some dj) (hn : Nat.blt dj n = true) (hb : e dj = .bool b) : yielded lo.toArray (mkA n e ds).tmps j = some b := by
  unfold yielded
  rw [List.getElem?_toArray, hj]
  have hn' : dj < n := by simpa using hn
  simp only [Option.bind_some, mkA]
  simp [hn', hb]
theorem S_yes {lo : List Oper} {dd j dj : Nat} {b : Bool} {op : Op} (hj : (lo[j]?).bind (·.dst) = some dj) (hn : Nat.blt dj n = true) (hb : e dj = .bool b)
    (h : Stp P n e ⟨some dd, op, ty, pos, af, some (j, b)⟩ w fun v w' => wpList P lo.toArray Q rest (mkA n (upd e dd v) ds) w') :
    wpList P lo.toArray Q (⟨some dd, op, ty, pos, af, some (j, b)⟩ :: rest) (mkA n e ds) w :=
  wpList_step fun K' hK => by
    rw [if_pos (by simp [Region.wanted, yielded_mkA (ds := ds) hj hn hb])]
    refine Stp.wp ?_
    refine Or.elim h (fun ⟨v, w', hr, hk⟩ => .inl ⟨v, w', hr, ?_⟩) fun h => h.elim (fun ⟨w', hr, hk⟩ => .inr (.inl ⟨w', hr, ?_⟩)) fun ⟨f, args, w', hr, hk⟩ => .inr (.inr ⟨f, args, w', hr, ?_⟩)
    · dsimp only; rw [put_mkA]; exact hK _ _ hk
    · dsimp only; rw [put_mkA]; exact hK _ _ hk
    · exact hk.mono fun r w'' ⟨v, er, hv⟩ => ⟨v, er, by dsimp only; rw [put_mkA]; exact hK _ _ hv⟩
theorem S_no {lo : List Oper} {dd j dj : Nat} {b c : Bool} {op : Op} (hj : (lo[j]?).bind (·.dst) = some dj) (hn : Nat.blt dj n = true) (hb : e dj = .bool b) (hc : b ≠ c)
    (h : wpList P lo.toArray Q rest (mkA n (upd e dd undef) ds) w) :
    wpList P lo.toArray Q (⟨some dd, op, ty, pos, af, some (j, c)⟩ :: rest) (mkA n e ds) w :=
  wpList_step fun K' hK => by
    rw [if_neg (by simp [Region.wanted, yielded_mkA (ds := ds) hj hn hb, hc])]
    dsimp only
    rw [put_mkA]
    exact hK _ _ h
/-! ### Values -/
def tin (P : Program) (t : TypeId) : Option (Nat × Nat × Option Value) := (P.info? t).map fun i => (i.size, i.bytes, i.zero)
theorem tin_info {t s b : Nat} {z : Option Value} (h : tin P t = some (s, b, z)) : ∃ i, P.info? t = some i ∧ i.size = s ∧ i.bytes = b ∧ i.zero = z := by
  unfold tin at h
  cases hi : P.info? t with
  | none => rw [hi] at h; cases h
  | some i => rw [hi] at h; simp at h; exact ⟨i, rfl, h.1, h.2.1, h.2.2⟩
theorem run_typeInfo {t : TypeId} {i : TypeInfo} (h : P.info? t = some i) : (typeInfo t).run P w = .ok i w := by
  simp [typeInfo, h]
theorem run_underlying {t : TypeId} {u : TypeDesc} (h : P.underlying t = some u) : (underlying t).run P w = .ok u w := by
  simp [underlying, h]
theorem run_sizeOf {t s b : Nat} {z : Option Value} (h : tin P t = some (s, b, z)) : (sizeOf t).run P w = .ok s w := by
  obtain ⟨i, hi, h1, _, _⟩ := tin_info h
  simp [sizeOf, run_typeInfo hi, h1]
theorem run_zeroValue {t s b : Nat} {z : Value} (h : tin P t = some (s, b, some z)) : (zeroValue t).run P w = .ok z w := by
  obtain ⟨i, hi, _, _, h3⟩ := tin_info h
  simp [zeroValue, run_typeInfo hi, h3]
def aggD : TypeDesc → Bool
  | .struct _ | .array _ _ => true
  | _ => false
theorem run_isAgg {t : TypeId} {u : TypeDesc} (h : P.underlying t = some u) : (isAgg t).run P w = .ok (aggD u) w := by
  simp only [isAgg, Sem.run_bind, run_underlying h, Result.andThen_ok]
  cases u <;> rfl

theorem T_val {o : Oper} {v : Value} (h : (execOp (ev n e) o).run P w = .ok (.value v) w) (k : K v w) : Stp P n e o w K := .inl ⟨v, w, h, k⟩
theorem sv {dd : Nat} {op : Op} {v : Value} (h : (execOp (ev n e) ⟨some dd, op, ty, pos, af, none⟩).run P w = .ok (.value v) w) (k : wpList P ops Q rest (mkA n (upd e dd v) ds) w) : wpList P ops Q (⟨some dd, op, ty, pos, af, none⟩ :: rest) (mkA n e ds) w := S_list (T_val h k)
theorem run_v (s : Sem Value) {v : Value} {w' : World} (h : s.run P w = .ok v w') : (do pure (Next.value (← s)) : Sem Next).run P w = .ok (.value v) w' := by
  simp [h]

theorem x_move {x : Operand} {v : Value} (h : ev n e x = v) : (execOp (ev n e) ⟨d, .move x, ty, pos, af, g⟩).run P w = .ok (.value v) w := by subst h; rfl
theorem x_assign {x : Operand} {v : Value} (h : ev n e x = v) : (execOp (ev n e) ⟨d, .assign x, ty, pos, af, g⟩).run P w = .ok (.value v) w := by subst h; rfl
theorem x_pick {c x y : Operand} {b : Bool} {v u : Value} (hc : ev n e c = .bool b) (hx : ev n e x = v) (hy : ev n e y = u) :
    (execOp (ev n e) ⟨d, .pick c x y, ty, pos, af, g⟩).run P w = .ok (.value (if b then v else u)) w := by
  subst hx; subst hy
  simp only [execOp, hc]
  simp [asBool]
theorem T_pickT {c x y : Operand} {v : Value} (hc : ev n e c = .bool true) (hx : ev n e x = v) (k : K v w) : Stp P n e ⟨d, .pick c x y, ty, pos, af, g⟩ w K :=
  T_val (by simpa using x_pick (P := P) (w := w) (d := d) (ty := ty) (pos := pos) (af := af) (g := g) hc hx (rfl : ev n e y = ev n e y)) k
theorem T_pickF {c x y : Operand} {v : Value} (hc : ev n e c = .bool false) (hy : ev n e y = v) (k : K v w) : Stp P n e ⟨d, .pick c x y, ty, pos, af, g⟩ w K :=
  T_val (by simpa using x_pick (P := P) (w := w) (d := d) (ty := ty) (pos := pos) (af := af) (g := g) hc (rfl : ev n e x = ev n e x) hy) k

def ibin (op : BinOp) (k : IntKind) (a b : Int) : Option Value :=
  match op with
  | .add => some (.int k (k.wrap (a + b)))
  | .sub => some (.int k (k.wrap (a - b)))
  | .mul => some (.int k (k.wrap (a * b)))
  | .quo => if b = 0 then none else some (.int k (k.wrap (a.tdiv b)))
  | .rem => if b = 0 then none else some (.int k (a.tmod b))
  | .and => some (.int k (k.wrap (BitVec.ofInt k.bits a &&& BitVec.ofInt k.bits b).toNat))
  | .or => some (.int k (k.wrap (BitVec.ofInt k.bits a ||| BitVec.ofInt k.bits b).toNat))
  | .xor => some (.int k (k.wrap (BitVec.ofInt k.bits a ^^^ BitVec.ofInt k.bits b).toNat))
  | .andNot => some (.int k (k.wrap (BitVec.ofInt k.bits a &&& ~~~BitVec.ofInt k.bits b).toNat))
  | .eql => some (.bool (decide (a = b)))
  | .neq => some (.bool (decide (a ≠ b)))
  | .lss => some (.bool (decide (a < b)))
  | .leq => some (.bool (decide (a ≤ b)))
  | .gtr => some (.bool (decide (b < a)))
  | .geq => some (.bool (decide (b ≤ a)))
  | _ => none
theorem run_eqGuard_int {op : BinOp} {t : TypeId} {x y : Operand} {k k' : IntKind} {a b : Int} : (eqGuard op t x y (.int k a) (.int k' b)).run P w = .ok () w := by
  unfold eqGuard
  cases op <;> rfl
theorem x_bin {op : BinOp} {t u : TypeId} {x y : Operand} {k : IntKind} {a b : Int} {v : Value} (hx : ev n e x = .int k a) (hy : ev n e y = .int k b) (hv : ibin op k a b = some v) :
    (execOp (ev n e) ⟨d, .binOp op t x y u, ty, pos, af, g⟩).run P w = .ok (.value v) w := by
  simp only [execOp]
  refine run_v _ ?_
  rw [hx, hy]
  simp only [Sem.run_bind, run_eqGuard_int, Result.andThen_ok]
  cases op <;> simp only [ibin, reduceCtorEq, Option.some.injEq] at hv <;>
    first
    | (subst hv; simp [binOp, Op.intArith, Op.intBits, Op.intCmp]; done)
    | (subst hv; simp only [binOp, Op.intCmp, ne_eq, not_true, if_false, Sem.run_pure]; by_cases h : a = b <;> simp [h]; done)
    | (split at hv
       · cases hv
       · rename_i hb; cases hv; simp [binOp, Op.intDiv, hb])
theorem ib_add {k : IntKind} {a b : Int} (h : k.wrap (a + b) = a + b) : ibin .add k a b = some (.int k (a + b)) := by simp [ibin, h]
theorem ib_sub {k : IntKind} {a b : Int} (h : k.wrap (a - b) = a - b) : ibin .sub k a b = some (.int k (a - b)) := by simp [ibin, h]
end
theorem mkA_defers (n : Nat) (e : Env) (ds : List Deferred) : (mkA n e ds).defers = ds := rfl
attribute [irreducible] mkA
end Go.Proofs.Ytlnihndjepjagaa.Gw
set_option linter.unusedVariables false
set_option linter.unusedSimpArgs false
namespace Go.Proofs.Ytlnihndjepjagaa.Gw
open Go Go.RowKit
section
variable {P : Program} {n : Nat} {e : Env} {w : World} {K : Value → World → Prop} {Q : Exit → Act → World → Prop} {ops : Array Oper} {rest : List Oper} {ds : List Deferred}
  {d : Option Nat} {ty : TypeId} {pos : String} {af : Array Edge} {g : Option (Nat × Bool)} {l : List SP}

/-! ### Loads and stores -/
theorem add_mk (b o j : Nat) : (Addr.mk b o none).add j = ⟨b, o + j, none⟩ := by
  unfold Addr.add
  split
  · rename_i h; subst h; rfl
  · rfl
theorem run_loadAt1 {t : TypeId} {u : TypeDesc} {p : Addr} {v : Value} (hu : P.underlying t = some u) (hd : aggD u = false) (hc : w.cell? p = some v) :
    (Instr.loadAt t (.pointer (some p))).run P w = .ok v w := by
  simp only [Instr.loadAt, Instr.sureAddr, loadVar, Sem.run_bind, Sem.run_pure, Result.andThen_ok, run_isAgg hu, hd, Bool.false_eq_true, if_false, run_load, hc]
theorem run_loadAtN {t s b : Nat} {z : Option Value} {u : TypeDesc} {p : Addr} {vs : List Value} (hu : P.underlying t = some u) (hd : aggD u = true) (hz : tin P t = some (s, b, z)) (hl : vs.length = s)
    (hc : ∀ j v, vs[j]? = some v → w.cell? (p.add j) = some v) : (Instr.loadAt t (.pointer (some p))).run P w = .ok (.agg vs.toArray) w := by
  subst hl
  simp only [Instr.loadAt, Instr.sureAddr, loadVar, Sem.run_bind, Sem.run_pure, Result.andThen_ok, run_isAgg hu, hd, if_true, run_sizeOf hz, run_loadCells_list w p vs hc]
theorem Holds.cl_cells (h : Holds w l) (i : Nat) {b : Nat} {T : TypeId} {cs : List Value} (hi : l[i]? = some (cl b T cs)) (off : Nat) {vs : List Value} (hv : (cs.drop off).take vs.length = vs) :
    ∀ j v, vs[j]? = some v → w.cell? ((Addr.mk b off none).add j) = some v := by
  intro j v hj
  rw [add_mk]
  refine h.cl_cell i hi ?_
  rw [← hv] at hj
  rw [List.getElem?_take] at hj
  split at hj
  · rw [List.getElem?_drop] at hj; exact hj
  · cases hj
theorem run_storeAt1 {t s b : Nat} {z : Option Value} {p : Addr} {v u : Value} (hz : tin P t = some (1, b, z)) (hv : v.oneCell' = true) (hc : w.cell? p = some u) (hf : w.frozen? p = false) :
    (Instr.storeAt t (.pointer (some p)) v).run P w = .ok () (w.setCell p v) := by
  have hcs : v.cells = #[v] := by cases v <;> first | rfl | simp [Value.oneCell'] at hv
  have ha : p.add 0 = p := rfl
  simp only [Instr.storeAt, Instr.sureAddr, storeVar, Sem.run_bind, Sem.run_pure, Result.andThen_ok, run_sizeOf hz, hcs, storeCells, ha, run_store P w p v _ hv, hc, hf]
  simp [storeCells, run_store P w p v _ hv, hc, hf, ha]
def setCells (w : World) (b off : Nat) : List Value → World
  | [] => w
  | v :: r => setCells (w.setCell ⟨b, off, none⟩ v) b (off + 1) r
theorem Same.setCells (b : Nat) : ∀ (vs : List Value) (off : Nat) (w : World), Same w (setCells w b off vs)
  | [], _, w => Same.refl w
  | v :: r, off, w => (Same.setCell w _ v).trans (Same.setCells b r (off + 1) _)
theorem run_storeCells {b : Nat} : ∀ (vs : List Value) (off j : Nat) (w : World), (∀ v ∈ vs, v.oneCell' = true) →
    (∀ k, k < vs.length → ∃ u, w.cell? ⟨b, off + j + k, none⟩ = some u) → (∀ k, k < vs.length → w.frozen? ⟨b, off + j + k, none⟩ = false) →
    (storeCells ⟨b, off, none⟩ vs j).run P w = .ok () (setCells w b (off + j) vs)
  | [], off, j, w, _, _, _ => rfl
  | v :: r, off, j, w, h1, h2, h3 => by
    obtain ⟨u, hu⟩ := h2 0 (by simp)
    have hf := h3 0 (by simp)
    simp only [Nat.add_zero] at hu hf
    simp only [storeCells, Sem.run_bind, add_mk, run_store P w _ v _ (h1 v (by simp)), hu, hf]
    have ih := run_storeCells r off (j + 1) (w.setCell ⟨b, off + j, none⟩ v) (fun x hx => h1 x (by simp [hx]))
      (fun k hk => by
        obtain ⟨y, hy⟩ := h2 (k + 1) (by simp; omega)
        refine ⟨y, ?_⟩
        rw [World.cell?_setCell_other w _ _ v (by simp)]
        rw [show off + (j + 1) + k = off + j + (k + 1) by omega]; exact hy)
      (fun k hk => by
        have := h3 (k + 1) (by simp; omega)
        rw [World.frozen?_setCell]
        rw [show off + (j + 1) + k = off + j + (k + 1) by omega]; exact this)
    simp only [Bool.false_eq_true, if_false, Result.andThen_ok]
    rw [ih]
    rfl
theorem Holds.setCells (i : Nat) {b : Nat} {T : TypeId} : ∀ (vs : List Value) (off : Nat) (w : World) (l : List SP) (cs : List Value), Holds w l → l[i]? = some (cl b T cs) → off + vs.length ≤ cs.length →
    Holds (Gw.setCells w b off vs) (l.set i (cl b T (cs.take off ++ vs ++ cs.drop (off + vs.length))))
  | [], off, w, l, cs, h, hi, _ => by
    have : cs.take off ++ [] ++ cs.drop (off + 0) = cs := by simp
    simp only [List.length_nil]
    rw [this]
    have : l.set i (cl b T cs) = l := by
      obtain ⟨hl, he⟩ := List.getElem?_eq_some_iff.1 hi
      rw [← he]; simp
    rw [this]; exact h
  | v :: r, off, w, l, cs, h, hi, hlen => by
    have hl : i < l.length := (List.getElem?_eq_some_iff.1 hi).1
    have h1 := h.setCell i hi off v
    have h2 := Holds.setCells i (b := b) (T := T) r (off + 1) _ _ (cs.set off v) h1 (by simp [hl]) (by simp at hlen ⊢; omega)
    simp only [List.length_cons] at hlen ⊢
    rw [List.set_set] at h2
    have e : (cs.set off v).take (off + 1) ++ r ++ (cs.set off v).drop (off + 1 + r.length) = cs.take off ++ v :: r ++ cs.drop (off + (r.length + 1)) := by
      have e1 : (cs.set off v).take (off + 1) = cs.take off ++ [v] := by
        rw [List.take_succ_eq_append_getElem (by simp; omega)]
        simp [List.take_set_of_le]
      rw [e1, List.drop_set_of_lt (by omega)]
      simp [Nat.add_comm 1 r.length, Nat.add_assoc]
    rw [e] at h2
    exact h2
theorem T_store1 {t b bb T : Nat} {z : Option Value} {x y : Operand} {off : Nat} {v : Value} {cs : List Value} (hx : ev n e x = .pointer (some ⟨b, off, none⟩)) (hy : ev n e y = v) (hz : tin P t = some (1, bb, z))
    (hv : v.oneCell' = true) (h : Holds w l) (i : Nat) (hi : l[i]? = some (cl b T cs)) (hk : off < cs.length) (k : ∀ w', Same w w' → Holds w' (l.set i (cl b T (cs.set off v))) → K undef w') :
    Stp P n e ⟨d, .store t x y, ty, pos, af, g⟩ w K := by
  refine .inr (.inl ⟨w.setCell ⟨b, off, none⟩ v, ?_, k _ (Same.setCell w _ v) (h.setCell i hi off v)⟩)
  simp only [execOp]
  rw [hx, hy]
  simp only [Sem.run_bind, run_storeAt1 (s := 1) hz hv (h.cl_cell i hi (List.getElem?_eq_getElem hk)) (h.cl_frozen i hi hk), Result.andThen_ok, Sem.run_pure]
theorem T_storeN {t s b bb T : Nat} {z : Option Value} {x y : Operand} {off : Nat} {vs cs : List Value} (hx : ev n e x = .pointer (some ⟨b, off, none⟩)) (hy : ev n e y = .agg vs.toArray) (hz : tin P t = some (s, bb, z))
    (hs : vs.length = s) (hv : ∀ v ∈ vs, v.oneCell' = true) (h : Holds w l) (i : Nat) (hi : l[i]? = some (cl b T cs)) (hk : off + vs.length ≤ cs.length)
    (k : ∀ w', Same w w' → Holds w' (l.set i (cl b T (cs.take off ++ vs ++ cs.drop (off + vs.length)))) → K undef w') :
    Stp P n e ⟨d, .store t x y, ty, pos, af, g⟩ w K := by
  subst hs
  refine .inr (.inl ⟨setCells w b off vs, ?_, k _ (Same.setCells b vs off w) (Holds.setCells i vs off w l cs h hi hk)⟩)
  simp only [execOp]
  rw [hx, hy]
  have hc : (Value.agg vs.toArray).cells = vs.toArray := rfl
  have hr := run_storeCells (P := P) (b := b) vs off 0 w hv (fun k hk' => ⟨_, h.cl_cell i hi (List.getElem?_eq_getElem (by omega : off + 0 + k < cs.length))⟩) (fun k hk' => h.cl_frozen i hi (by omega))
  simp only [Nat.add_zero] at hr
  simp only [Sem.run_bind, Instr.storeAt, Instr.sureAddr, storeVar, Sem.run_pure, Result.andThen_ok, run_sizeOf hz, hc, List.size_toArray, ne_eq, not_true, if_false]
  simp [hr]

/-! ### New blocks -/
theorem T_new {o : Oper} {obj : Obj} {f : Nat → Value} (hr : (execOp (ev n e) o).run P w = .ok (.value (f w.heap.size)) (w.alloc obj)) {A : Nat → SP} (hA : ∀ l, Holds w l → Holds (w.alloc obj) (A w.heap.size :: l))
    (h : Holds w l) (k : ∀ b w', Same w w' → Holds w' (A b :: l) → K (f b) w') : Stp P n e o w K :=
  .inl ⟨_, _, hr, k _ _ (Same.alloc w obj) (hA l h)⟩
theorem T_box {t : Nat} {x : Operand} {v : Value} (hx : ev n e x = v) (h : Holds w l) (k : ∀ b w', Same w w' → Holds w' (cl b t v.cells.toList :: l) → K (.pointer (some ⟨b, 0, none⟩)) w') :
    Stp P n e ⟨d, .box t x, ty, pos, af, g⟩ w K := by
  refine T_new (obj := .cells v.cells t) (f := fun b => .pointer (some ⟨b, 0, none⟩)) ?_ (fun l h => h.alloc _ _) h k
  simp only [execOp]; rw [hx]; rfl
theorem T_alloc {t s b : Nat} {v : Value} (hz : tin P t = some (s, b, some v)) (h : Holds w l) (k : ∀ b w', Same w w' → Holds w' (cl b t v.cells.toList :: l) → K (.pointer (some ⟨b, 0, none⟩)) w') :
    Stp P n e ⟨d, .alloc t, ty, pos, af, g⟩ w K := by
  refine T_new (obj := .cells v.cells t) (f := fun b => .pointer (some ⟨b, 0, none⟩)) ?_ (fun l h => h.alloc _ _) h k
  simp only [execOp, Instr.alloc]
  refine run_v _ ?_
  simp only [Sem.run_bind, run_zeroValue hz, Result.andThen_ok]
  rfl

/-! ### Places -/
end
end Go.Proofs.Ytlnihndjepjagaa.Gw
set_option linter.unusedVariables false
set_option linter.unusedSimpArgs false
namespace Go.Proofs.Ytlnihndjepjagaa.Gw
open Go Go.RowKit
section
variable {P : Program} {n : Nat} {e : Env} {w : World} {K : Value → World → Prop} {Q : Exit → Act → World → Prop} {ops : Array Oper} {rest : List Oper} {ds : List Deferred}
  {d : Option Nat} {ty : TypeId} {pos : String} {af : Array Edge} {g : Option (Nat × Bool)} {l : List SP}

/-! ### Code -/
theorem C_reg {id : Nat} {lo : List Oper} (h : wpList P lo.toArray Q lo (mkA n e ds) w) : (Code.region id lo.toArray false).wp P Q (mkA n e ds) w := wp_region_lit h
theorem C_seq {x y : Code} (h : ∀ K : Act → World → Prop, (∀ a w, y.wp P Q a w → K a w) → x.wp P (Exit.then K Q) (mkA n e ds) w) : (Code.seq x y).wp P Q (mkA n e ds) w := wp_seq (h _ fun _ _ h => h)
theorem C_block {id : Nat} {c : Code} (h : c.wp P (Exit.inBlock id Q) (mkA n e ds) w) : (Code.block id c).wp P Q (mkA n e ds) w := wp_block h
theorem C_skip (h : Q .normal (mkA n e ds) w) : Code.skip.wp P Q (mkA n e ds) w := wp_skip h
theorem C_exit {id : Nat} (h : Q (.exit id) (mkA n e ds) w) : (Code.exit id).wp P Q (mkA n e ds) w := wp_exit h
theorem C_ret (h : Q .ret (mkA n e ds) w) : Code.ret.wp P Q (mkA n e ds) w := wp_ret h
theorem C_cond {c : Operand} {x y : Code} {b : Bool} (hc : ev n e c = .bool b) (h1 : b = true → x.wp P Q (mkA n e ds) w) (h2 : b = false → y.wp P Q (mkA n e ds) w) : (Code.cond c x y).wp P Q (mkA n e ds) w :=
  wp_cond_split (t := b) (by rw [eval_mkA]; exact hc) h1 h2
theorem C_condT {c : Operand} {x y : Code} (hc : ev n e c = .bool true) (h1 : x.wp P Q (mkA n e ds) w) : (Code.cond c x y).wp P Q (mkA n e ds) w := C_cond hc (fun _ => h1) (fun h => by cases h)
theorem C_condF {c : Operand} {x y : Code} (hc : ev n e c = .bool false) (h1 : y.wp P Q (mkA n e ds) w) : (Code.cond c x y).wp P Q (mkA n e ds) w := C_cond hc (fun h => by cases h) (fun _ => h1)
theorem C_cut {x y : Code} (J : Act → World → Prop) (h : x.wp P (Exit.then J Q) (mkA n e ds) w) (k : ∀ a w', J a w' → y.wp P Q a w') : (Code.seq x y).wp P Q (mkA n e ds) w :=
  wp_seq (wp_mono h fun ex a w' hq => by cases ex <;> first | exact k _ _ hq | exact hq)
theorem X_then {J : Act → World → Prop} {a : Act} (h : J a w) : Exit.then J Q .normal a w := h
theorem X_thenX {J : Act → World → Prop} {a : Act} {i : Nat} (h : Q (.exit i) a w) : Exit.then J Q (.exit i) a w := h
theorem X_thenR {J : Act → World → Prop} {a : Act} (h : Q .ret a w) : Exit.then J Q .ret a w := h
theorem X_blkN {a : Act} {id : Nat} (h : Q .normal a w) : Exit.inBlock id Q .normal a w := h
theorem X_blkR {a : Act} {id : Nat} (h : Q .ret a w) : Exit.inBlock id Q .ret a w := h
theorem X_blkHit {a : Act} {id : Nat} (h : Q .normal a w) : Exit.inBlock id Q (.exit id) a w := by simp only [Exit.inBlock, if_true]; exact h
theorem X_blkMiss {a : Act} {id i : Nat} (hn : Nat.beq i id = false) (h : Q (.exit i) a w) : Exit.inBlock id Q (.exit i) a w := by
  have : ¬ i = id := fun he => by subst he; simp at hn
  simp only [Exit.inBlock, this, if_false]; exact h
theorem C_loop {γ : Type} {c : Code} (I : γ → Act → World → Prop) (μ : γ → Nat) (x0 : γ) (h0 : I x0 (mkA n e ds) w)
    (round : ∀ x a w, I x a w → c.wp P (Exit.then (fun a' w' => ∃ x', I x' a' w' ∧ μ x' < μ x) Q) a w) : (Code.loop c).wp P Q (mkA n e ds) w := by
  have key : ∀ (m : Nat) (x : γ) (a : Act) (w : World), μ x = m → I x a w → ∀ (b : Frame) (k : List Item) (cs : List Frame),
      ∃ ex a' w', Q ex a' w' ∧ Arrives P (lone (b.at a (.code c :: .inLoop c :: k)) cs w) b k cs ex a' w' := by
    intro m
    induction m using Nat.strongRecOn with
    | _ m ih =>
      intro x a w hm hI b k cs
      obtain ⟨ex, a₁, w₁, hq, harr⟩ := round x a w hI b (.inLoop c :: k) cs
      cases ex with
      | normal =>
        obtain ⟨x', hI₁, hlt⟩ := hq
        obtain ⟨e₂, a₂, w₂, hq₂, harr₂⟩ := ih (μ x') (hm ▸ hlt) x' a₁ w₁ rfl hI₁ b k cs
        exact ⟨e₂, a₂, w₂, hq₂, .of_steps (Steps.trans harr (.one step_inLoop)) harr₂⟩
      | exit id => exact ⟨_, a₁, w₁, hq, .pass (x := .inLoop c) rfl (fun _ _ => .inl (by simp)) harr⟩
      | goto l => exact ⟨_, a₁, w₁, hq, .pass (x := .inLoop c) rfl (fun _ _ => .inl (by simp)) harr⟩
      | ret => exact ⟨_, a₁, w₁, hq, .pass (x := .inLoop c) rfl (fun _ _ => .inl (by simp)) harr⟩
      | panic ch => exact ⟨_, a₁, w₁, hq, .pass (x := .inLoop c) rfl (fun _ _ => .inl (by simp)) harr⟩
      | outgrown => exact ⟨_, a₁, w₁, hq, .pass (x := .inLoop c) rfl (fun _ _ => .inl (by simp)) harr⟩
  intro b k cs
  obtain ⟨ex, a', w', hq, harr⟩ := key _ x0 _ w rfl h0 b k cs
  exact ⟨ex, a', w', hq, .of_steps (.one step_loop) harr⟩

/-! ### Calls -/
def callable (P : Program) (f : FuncId) : Bool := match P.funcs[f]? with
  | some fn => fn.body.isSome && fn.name != "runtime.NumGoroutine"
  | none => false
theorem run_callFunc {f : FuncId} {args : Array Value} (h : callable P f = true) : (callFunc f args).run P w = .ok (.enter f args) w := by
  unfold callable at h
  split at h
  · rename_i fn hf
    simp only [Bool.and_eq_true, bne_iff_ne, ne_eq] at h
    obtain ⟨h1, h2⟩ := h
    have h3 : ¬ fn.body = none := fun hb => by rw [hb] at h1; cases h1
    simp [callFunc, hf, h3, h2]
  · cases h
theorem T_callW {f : FuncId} {x : Operand} {lo : List Operand} {cl al : List Value} {at_ : Array TypeId} (hx : ev n e x = .func (.func f) #[] cl.toArray) (ha : lo.map (ev n e) ++ cl = al)
    (hc : callable P f = true) (h : Calls P f al.toArray w fun r w' => ∃ v, r = .returned v ∧ K v w') : Stp P n e ⟨d, .call { callee := .value x, args := lo.toArray, argTypes := at_ }, ty, pos, af, g⟩ w K := by
  subst ha
  refine .inr (.inr ⟨f, _, w, ?_, h⟩)
  simp only [execOp, resolve, hx, Deferred.ofValue, Sem.run_bind, Sem.run_pure, Result.andThen_ok, invoke]
  simp [run_callFunc hc]
theorem T_call {f : FuncId} {x : Operand} {lo : List Operand} {cl al : List Value} {at_ : Array TypeId} {R : HP} {pre F : List SP} {Qc : Value → List SP → Prop}
    (hx : ev n e x = .func (.func f) #[] cl.toArray) (ha : lo.map (ev n e) ++ cl = al) (hc : callable P f = true) (ht : Tri P f al.toArray R pre Qc) (h : Holds w (ro R :: (pre ++ F)))
    (k : ∀ v post w', Qc v post → Same w w' → Holds w' (ro R :: (post ++ F)) → K v w') : Stp P n e ⟨d, .call { callee := .value x, args := lo.toArray, argTypes := at_ }, ty, pos, af, g⟩ w K :=
  T_callW hx ha hc ((ht w F h).mono fun r w' ⟨v, post, er, q, s, hh⟩ => ⟨v, er, k v post w' q s hh⟩)
theorem Calls.into {f : FuncId} {fn : Func} {c : Code} {args : Array Value} {al : List Value} {R : Ending → World → Prop} (hf : P.funcs[f]? = some fn) (hb : fn.body = some c) (hn : fn.ntmps = n) (ha : args = al.toArray)
    (hl : Nat.ble al.length n = true) (h : c.wp P (bodyPost P fn R) (mkA n (fun t => al.getD t undef) []) w) : Calls P f args w R := by
  subst ha; subst hn
  refine calls_of_wp hf hb ?_
  rw [mkA_args al _ (by simpa using hl)]
  exact h
theorem Tri.into {f : FuncId} {fn : Func} {c : Code} {args : Array Value} {al : List Value} {R : HP} {pre : List SP} {Qc : Value → List SP → Prop} (hf : P.funcs[f]? = some fn) (hb : fn.body = some c) (hn : fn.ntmps = n)
    (ha : args = al.toArray) (hl : Nat.ble al.length n = true)
    (h : ∀ w F, Holds w (ro R :: (pre ++ F)) → c.wp P (bodyPost P fn fun r w' => ∃ v post, r = .returned v ∧ Qc v post ∧ Same w w' ∧ Holds w' (ro R :: (post ++ F))) (mkA n (fun t => al.getD t undef) []) w) :
    Tri P f args R pre Qc := fun w F hh => Calls.into hf hb hn ha hl (h w F hh)

/-! ### Results -/
theorem ev_getD (t : Nat) : (mkA n e ds).tmps.getD t undef = ev n e (.tmp t) := congrFun (eval_mkA n e ds) (.tmp t)
theorem ev_getO (t : Nat) : (mkA n e ds).tmps[t]?.getD undef = ev n e (.tmp t) := by
  rw [← ev_getD (ds := ds)]; simp
theorem R_0 {fn : Func} {R : Ending → World → Prop} (hr : fn.results = #[]) (h : R (.returned (.tuple #[])) w) : bodyPost P fn R .normal (mkA n e []) w :=
  bodyPost_end (results_none hr _ _ _) (mkA_defers ..) h
theorem R_any {fn : Func} {R : Ending → World → Prop} {v : Value} (hr : (results fn (mkA n e []).tmps).run P w = .ok v w) (h : R (.returned v) w) : bodyPost P fn R .ret (mkA n e []) w :=
  bodyPost_ret hr (mkA_defers ..) h
def resRun (P : Program) (n : Nat) (e : Env) (w : World) : ResultVar → Value → Prop
  | .tmp t, v => ev n e (.tmp t) = v
  | .cell a t, v => ∃ p, ev n e (.tmp a) = .pointer (some p) ∧ (loadVar t p).run P w = .ok v w
theorem run_results1 {fn : Func} {r : ResultVar} {v : Value} (hr : fn.results = #[r]) (h : resRun P n e w r v) : (results fn (mkA n e ds).tmps).run P w = .ok v w := by
  cases r with
  | tmp t => rw [results_tmp hr, ev_getD]; simp only [resRun] at h; rw [h]
  | cell a t =>
    obtain ⟨p, h1, h2⟩ := h
    simp [results, hr, ev_getO, h1, asAddr, h2]
theorem run_results3 {fn : Func} {r s t : ResultVar} {v u x : Value} (hr : fn.results = #[r, s, t]) (h : resRun P n e w r v) (h' : resRun P n e w s u) (h'' : resRun P n e w t x) :
    (results fn (mkA n e ds).tmps).run P w = .ok (.tuple #[v, u, x]) w := by
  cases r <;> cases s <;> cases t <;> simp only [resRun] at h h' h'' <;> (try obtain ⟨p, h1, h2⟩ := h) <;> (try obtain ⟨p', h1', h2'⟩ := h') <;> (try obtain ⟨p'', h1'', h2''⟩ := h'') <;>
    simp_all [results, ev_getO, asAddr]
theorem load_resN {t s b : Nat} {z : Option Value} {u : TypeDesc} {p : Addr} {vs : List Value} (hu : P.underlying t = some u) (hd : aggD u = true) (hz : tin P t = some (s, b, z)) (hl : vs.length = s)
    (hc : ∀ j v, vs[j]? = some v → w.cell? (p.add j) = some v) : (loadVar t p).run P w = .ok (.agg vs.toArray) w := by
  have := run_loadAtN (P := P) (w := w) hu hd hz hl hc
  simpa [Instr.loadAt, Instr.sureAddr] using this
end
end Go.Proofs.Ytlnihndjepjagaa.Gw
set_option linter.unusedVariables false
set_option linter.unusedSimpArgs false
namespace Go.Proofs.Ytlnihndjepjagaa.Gw
open Go Go.RowKit
section
variable {P : Program} {n : Nat} {e : Env} {w : World} {K : Value → World → Prop} {Q : Exit → Act → World → Prop} {ops : Array Oper} {rest : List Oper} {ds : List Deferred}
  {d : Option Nat} {ty : TypeId} {pos : String} {af : Array Edge} {g : Option (Nat × Bool)} {l : List SP}
theorem x_cast {o : Oper} {v v' : Value} (h : (execOp (ev n e) o).run P w = .ok (.value v) w) (hv : v = v') : (execOp (ev n e) o).run P w = .ok (.value v') w := hv ▸ h
theorem x_load1 {t : TypeId} {u : TypeDesc} {x : Operand} {p : Addr} {v : Value} (hx : ev n e x = .pointer (some p)) (hu : P.underlying t = some u) (hd : aggD u = false) (hc : w.cell? p = some v) :
    (execOp (ev n e) ⟨d, .load t x, ty, pos, af, g⟩).run P w = .ok (.value v) w := by simp only [execOp]; rw [hx]; exact run_v _ (run_loadAt1 hu hd hc)
theorem x_loadN {t s b : Nat} {z : Option Value} {u : TypeDesc} {x : Operand} {p : Addr} {vs : List Value} (hx : ev n e x = .pointer (some p)) (hu : P.underlying t = some u) (hd : aggD u = true)
    (hz : tin P t = some (s, b, z)) (hl : vs.length = s) (hc : ∀ j v, vs[j]? = some v → w.cell? (p.add j) = some v) : (execOp (ev n e) ⟨d, .load t x, ty, pos, af, g⟩).run P w = .ok (.value (.agg vs.toArray)) w := by
  simp only [execOp]; rw [hx]; exact run_v _ (run_loadAtN hu hd hz hl hc)
theorem x_indexAddr {t el : TypeId} {x y : Operand} {b off len cap i sz bb : Nat} {z : Option Value} {k' : IntKind} {p : Addr} {ii : Int} (hx : ev n e x = .slice (some ⟨b, off, none⟩) len cap) (hy : ev n e y = .int k' ii)
    (hu : P.underlying t = some (.slice el)) (hz : tin P el = some (sz, bb, z)) (h0 : 0 ≤ ii) (hi : ii < len) (hn : ii.toNat = i) (hp : (⟨b, off + i * sz, none⟩ : Addr) = p) :
    (execOp (ev n e) ⟨d, .indexAddr t x y, ty, pos, af, g⟩).run P w = .ok (.value (.pointer (some p))) w := by
  subst hp; subst hn
  simp only [execOp]
  rw [hx, hy]
  refine run_v _ ?_
  simp [Instr.indexAt, asIntOf, run_underlying hu, h0, hi, run_sizeOf hz, add_mk]
theorem x_convI {s t : TypeId} {x : Operand} {k k' : IntKind} {a b : Int} {u : TypeDesc} (hx : ev n e x = .int k a) (hs : P.underlying s = some u) (ht : P.underlying t = some (.int k')) (hv : k'.wrap a = b) :
    (execOp (ev n e) ⟨d, .convert s t x, ty, pos, af, g⟩).run P w = .ok (.value (.int k' b)) w := by
  subst hv
  simp only [execOp]
  rw [hx]
  refine run_v _ ?_
  simp only [convert, Sem.run_bind, run_underlying hs, run_underlying ht, Result.andThen_ok]
  cases u <;> simp [Conv.intToInt]
theorem x_lenS {argO : Operand} {t : TypeId} {el : TypeId} {a : Option Addr} {len cap : Nat} (hx : ev n e argO = .slice a len cap) (hu : P.underlying t = some (.slice el)) :
    (execOp (ev n e) ⟨d, .call { callee := .builtin .len, args := #[argO], argTypes := #[t] }, ty, pos, af, g⟩).run P w = .ok (.value (.int .i64 len)) w := by
  simp only [execOp, resolve, Sem.run_bind, Sem.run_pure, Result.andThen_ok, invoke, builtin]
  simp [hx, Builtin.len_, run_underlying hu, goInt]
theorem x_lenT {argO : Operand} {t : TypeId} {s : ByteArray} (hx : ev n e argO = .string s) (hu : P.underlying t = some .string) :
    (execOp (ev n e) ⟨d, .call { callee := .builtin .len, args := #[argO], argTypes := #[t] }, ty, pos, af, g⟩).run P w = .ok (.value (.int .i64 s.size)) w := by
  simp only [execOp, resolve, Sem.run_bind, Sem.run_pure, Result.andThen_ok, invoke, builtin]
  simp [hx, Builtin.len_, run_underlying hu, goInt]
theorem x_not {x : Operand} {t : TypeId} {b : Bool} (hx : ev n e x = .bool b) : (execOp (ev n e) ⟨d, .unOp .not t x, ty, pos, af, g⟩).run P w = .ok (.value (.bool !b)) w := by
  simp only [execOp]; rw [hx]; rfl
theorem x_notP {x : Operand} {t : TypeId} {p : Prop} [Decidable p] (hx : ev n e x = .bool (decide p)) : (execOp (ev n e) ⟨d, .unOp .not t x, ty, pos, af, g⟩).run P w = .ok (.value (.bool (decide (¬ p)))) w := by
  rw [x_not hx]; simp
theorem x_pickT {c x y : Operand} {v : Value} (hc : ev n e c = .bool true) (hx : ev n e x = v) : (execOp (ev n e) ⟨d, .pick c x y, ty, pos, af, g⟩).run P w = .ok (.value v) w := by
  simpa using x_pick (P := P) (w := w) (d := d) (ty := ty) (pos := pos) (af := af) (g := g) hc hx (rfl : ev n e y = ev n e y)
theorem x_pickF {c x y : Operand} {v : Value} (hc : ev n e c = .bool false) (hy : ev n e y = v) : (execOp (ev n e) ⟨d, .pick c x y, ty, pos, af, g⟩).run P w = .ok (.value v) w := by
  simpa using x_pick (P := P) (w := w) (d := d) (ty := ty) (pos := pos) (af := af) (g := g) hc (rfl : ev n e x = ev n e x) hy
theorem x_str {op : BinOp} {t u : TypeId} {x y : Operand} {a b : ByteArray} {v : Value} (hx : ev n e x = .string a) (hy : ev n e y = .string b) (hv : (Op.stringOp op a b).run P w = .ok v w) (ho : op ≠ .shl ∧ op ≠ .shr) :
    (execOp (ev n e) ⟨d, .binOp op t x y u, ty, pos, af, g⟩).run P w = .ok (.value v) w := by
  simp only [execOp]
  rw [hx, hy]
  refine run_v _ ?_
  have h1 : (eqGuard op t x y (.string a) (.string b)).run P w = .ok () w := by unfold eqGuard; cases op <;> rfl
  simp only [Sem.run_bind, h1, Result.andThen_ok]
  cases op <;> first | exact hv | simp at ho

/-! ### What a block of ours, or one that is only read, holds -/
def Rd (b : Nat) (cs : List Value) (w : World) : Prop := ∀ k v, cs[k]? = some v → w.cell? ⟨b, k, none⟩ = some v
theorem Rd.cells {b : Nat} {cs : List Value} (h : Rd b cs w) (off : Nat) {vs : List Value} (hv : (cs.drop off).take vs.length = vs) : ∀ j v, vs[j]? = some v → w.cell? ((Addr.mk b off none).add j) = some v := by
  intro j v hj
  rw [add_mk]
  refine h _ _ ?_
  rw [← hv] at hj
  rw [List.getElem?_take] at hj
  split at hj
  · rw [List.getElem?_drop] at hj; exact hj
  · cases hj
theorem Holds.rd (h : Holds w l) (i : Nat) {b : Nat} {T : TypeId} {cs : List Value} (hi : l[i]? = some (cl b T cs)) : Rd b cs w := fun _ _ hk => h.cl_cell i hi hk

/-! ### Regions whose order is open -/
theorem A_start {id N : Nat} {lo : List Oper} {S : World → Prop} (hm : P.follows .mixedOrders = true) (hs : Nat.beq lo.length N = true) {ls : Array Bool} (hl : Array.replicate N false = ls)
    (h : wpAnyH P .any lo.toArray Q S N ls (mkA n e ds) w.drew) : (Code.region id lo.toArray true).wp P Q (mkA n e ds) w := by
  have hs' : lo.length = N := Nat.eq_of_beq_eq_true hs
  subst hl
  refine wp_region_held (S := S) hm ?_
  have : lo.toArray.size = N := by simpa using hs'
  rw [this]
  exact h
theorem A_take {lo : List Oper} {S : World → Prop} {fuel : Nat} {ls ls' : Array Bool} (i : Nat) {dd : Nat} {op : Op} {v : Value} (hi : lo[i]? = some ⟨some dd, op, ty, pos, af, none⟩) (hs : Region.noSelect lo.toArray = true)
    (hf : Region.free .any lo.toArray ls i = true) (hr : (Region.ready .any lo.toArray ls).contains i = true) (hl : ls.setIfInBounds i true = ls') (hQ : ∀ c a w, Q (.panic c) (a.put (some dd) v) w → Q (.panic c) a w)
    (hy : ∀ w, S w → (execOp (ev n e) ⟨some dd, op, ty, pos, af, none⟩).run P w = .ok (.value v) w) (hS : S w) (h : wpAnyH P .any lo.toArray Q S fuel ls' (mkA n (upd e dd v) ds) w) :
    wpAnyH P .any lo.toArray Q S (fuel + 1) ls (mkA n e ds) w := by
  subst hl
  have hi : lo.toArray[i]? = _ := (List.getElem?_toArray ..).trans hi
  refine wpAnyH_take hi hs hf hr hQ (.inl ⟨rfl, fun w hw => ?_⟩) hS ?_
  · rw [eval_mkA]; exact hy w hw
  · rw [put_mkA]; exact h
theorem A_takeYes {lo : List Oper} {S : World → Prop} {fuel : Nat} {ls ls' : Array Bool} (i : Nat) {dd j dj : Nat} {b : Bool} {op : Op} {v : Value} (hi : lo[i]? = some ⟨some dd, op, ty, pos, af, some (j, b)⟩) (hs : Region.noSelect lo.toArray = true)
    (hf : Region.free .any lo.toArray ls i = true) (hr : (Region.ready .any lo.toArray ls).contains i = true) (hl : ls.setIfInBounds i true = ls') (hQ : ∀ c a w, Q (.panic c) (a.put (some dd) v) w → Q (.panic c) a w)
    (hj : (lo[j]?).bind (·.dst) = some dj) (hn : Nat.blt dj n = true) (hb : e dj = .bool b)
    (hy : ∀ w, S w → (execOp (ev n e) ⟨some dd, op, ty, pos, af, some (j, b)⟩).run P w = .ok (.value v) w) (hS : S w) (h : wpAnyH P .any lo.toArray Q S fuel ls' (mkA n (upd e dd v) ds) w) :
    wpAnyH P .any lo.toArray Q S (fuel + 1) ls (mkA n e ds) w := by
  subst hl
  have hi : lo.toArray[i]? = _ := (List.getElem?_toArray ..).trans hi
  refine wpAnyH_take hi hs hf hr hQ (.inl ⟨by simp [Region.wanted, yielded_mkA (ds := ds) hj hn hb], fun w hw => ?_⟩) hS ?_
  · rw [eval_mkA]; exact hy w hw
  · rw [put_mkA]; exact h
theorem A_takeNo {lo : List Oper} {S : World → Prop} {fuel : Nat} {ls ls' : Array Bool} (i : Nat) {dd j dj : Nat} {b c : Bool} {op : Op} (hi : lo[i]? = some ⟨some dd, op, ty, pos, af, some (j, c)⟩) (hs : Region.noSelect lo.toArray = true)
    (hf : Region.free .any lo.toArray ls i = true) (hr : (Region.ready .any lo.toArray ls).contains i = true) (hl : ls.setIfInBounds i true = ls') (hQ : ∀ c a w, Q (.panic c) (a.put (some dd) undef) w → Q (.panic c) a w)
    (hj : (lo[j]?).bind (·.dst) = some dj) (hn : Nat.blt dj n = true) (hb : e dj = .bool b) (hc : b ≠ c) (hS : S w)
    (h : wpAnyH P .any lo.toArray Q S fuel ls' (mkA n (upd e dd undef) ds) w) : wpAnyH P .any lo.toArray Q S (fuel + 1) ls (mkA n e ds) w := by
  subst hl
  have hi : lo.toArray[i]? = _ := (List.getElem?_toArray ..).trans hi
  refine wpAnyH_take hi hs hf hr hQ (.inr ⟨by simp [Region.wanted, yielded_mkA (ds := ds) hj hn hb, hc], rfl⟩) hS ?_
  rw [put_mkA]; exact h
theorem A_done {S : World → Prop} {fuel : Nat} {ls : Array Bool} (hr : Region.ready .any ops ls = []) (h : Q .normal (mkA n e ds) w) : wpAnyH P .any ops Q S fuel ls (mkA n e ds) w := wpAnyH_done hr h fuel
def AllR (P : Program) (ops : Array Oper) (Q : Exit → Act → World → Prop) (S : World → Prop) (fuel : Nat) (ls : Array Bool) (a : Act) (w : World) (rs : List Nat) : Prop :=
  ∀ i ∈ rs, wpOp P ops Q i (fun a' w' => S w' ∧ wpAnyH P .any ops Q S fuel (ls.setIfInBounds i true) a' w') a w
theorem A_ready {S : World → Prop} {fuel : Nat} {ls : Array Bool} {i : Nat} {rs : List Nat} (hr : Region.ready .any ops ls = i :: rs) (h : AllR P ops Q S fuel ls (mkA n e ds) w (i :: rs)) :
    wpAnyH P .any ops Q S (fuel + 1) ls (mkA n e ds) w := wpAnyH_all hr (by simp) h
theorem AllR.nil {S : World → Prop} {fuel : Nat} {ls : Array Bool} {a : Act} : AllR P ops Q S fuel ls a w [] := fun i hi => by cases hi
theorem AllR.cons {S : World → Prop} {fuel : Nat} {ls : Array Bool} {a : Act} {i : Nat} {rs : List Nat}
    (h : wpOp P ops Q i (fun a' w' => S w' ∧ wpAnyH P .any ops Q S fuel (ls.setIfInBounds i true) a' w') a w) (k : AllR P ops Q S fuel ls a w rs) : AllR P ops Q S fuel ls a w (i :: rs) := fun j hj => by
  rcases List.mem_cons.1 hj with rfl | hj
  · exact h
  · exact k j hj
theorem A_op {lo : List Oper} {S : World → Prop} {fuel i dd : Nat} {ls ls' : Array Bool} {op : Op} (hi : lo[i]? = some ⟨some dd, op, ty, pos, af, none⟩) (hl : ls.setIfInBounds i true = ls')
    (h : Stp P n e ⟨some dd, op, ty, pos, af, none⟩ w fun v w' => S w' ∧ wpAnyH P .any lo.toArray Q S fuel ls' (mkA n (upd e dd v) ds) w') :
    wpOp P lo.toArray Q i (fun a' w' => S w' ∧ wpAnyH P .any lo.toArray Q S fuel (ls.setIfInBounds i true) a' w') (mkA n e ds) w := by
  subst hl
  unfold wpOp
  rw [List.getElem?_toArray, hi]
  dsimp only
  rw [if_pos (by rfl)]
  refine .inl (Stp.wp ?_)
  simpa only [put_mkA] using h
theorem A_op0 {lo : List Oper} {S : World → Prop} {fuel i : Nat} {ls ls' : Array Bool} {op : Op} (hi : lo[i]? = some ⟨none, op, ty, pos, af, none⟩) (hl : ls.setIfInBounds i true = ls')
    (h : Stp P n e ⟨none, op, ty, pos, af, none⟩ w fun v w' => S w' ∧ wpAnyH P .any lo.toArray Q S fuel ls' (mkA n e ds) w') :
    wpOp P lo.toArray Q i (fun a' w' => S w' ∧ wpAnyH P .any lo.toArray Q S fuel (ls.setIfInBounds i true) a' w') (mkA n e ds) w := by
  subst hl
  unfold wpOp
  rw [List.getElem?_toArray, hi]
  dsimp only
  rw [if_pos (by rfl)]
  exact .inl (Stp.wp h)
theorem A_opYes {lo : List Oper} {S : World → Prop} {fuel i dd j dj : Nat} {b : Bool} {ls ls' : Array Bool} {op : Op} (hi : lo[i]? = some ⟨some dd, op, ty, pos, af, some (j, b)⟩) (hl : ls.setIfInBounds i true = ls')
    (hj : (lo[j]?).bind (·.dst) = some dj) (hn : Nat.blt dj n = true) (hb : e dj = .bool b)
    (h : Stp P n e ⟨some dd, op, ty, pos, af, some (j, b)⟩ w fun v w' => S w' ∧ wpAnyH P .any lo.toArray Q S fuel ls' (mkA n (upd e dd v) ds) w') :
    wpOp P lo.toArray Q i (fun a' w' => S w' ∧ wpAnyH P .any lo.toArray Q S fuel (ls.setIfInBounds i true) a' w') (mkA n e ds) w := by
  subst hl
  unfold wpOp
  rw [List.getElem?_toArray, hi]
  dsimp only
  rw [if_pos (by simp [Region.wanted, yielded_mkA (ds := ds) hj hn hb])]
  refine .inl (Stp.wp ?_)
  simpa only [put_mkA] using h
end
end Go.Proofs.Ytlnihndjepjagaa.Gw
set_option linter.unusedVariables false
set_option linter.unusedSimpArgs false
namespace Go.Proofs.Ytlnihndjepjagaa.Gw
open Go Go.RowKit
section
variable {P : Program} {n : Nat} {e : Env} {w : World} {K : Value → World → Prop} {Q : Exit → Act → World → Prop} {ops : Array Oper} {rest : List Oper} {ds : List Deferred}
  {d : Option Nat} {ty : TypeId} {pos : String} {af : Array Edge} {g : Option (Nat × Bool)} {l : List SP}

def sl (T sz : Nat) (v : Value) (m : Nat) (xs : List Value) : SP := fun h =>
  (v = .slice none 0 0 ∧ m = 0 ∧ xs = []) ∨ ∃ b pr sp cap, v = .slice (some ⟨b, pr.length, none⟩) m cap ∧ xs.length = m * sz ∧ sp.length = (cap - m) * sz ∧ m ≤ cap ∧ cl b T (pr ++ xs ++ sp) h
theorem sl_nil (T sz : Nat) (h : HP) : sl T sz (.slice none 0 0) 0 [] h := .inl ⟨rfl, rfl, rfl⟩
theorem Sat.add_free {A : SP} (hA : ∀ h, A h) {l : List SP} {g : HP} (h : Sat l g) : Sat (A :: l) g :=
  ⟨(fun _ => none), g, (fun _ _ e => by cases e), Sub.rfl' g, (fun _ => Or.inl rfl), hA _, h⟩
theorem Holds.add_nil (h : Holds w l) (T sz : Nat) : Holds w (sl T sz (.slice none 0 0) 0 [] :: l) := Sat.add_free (sl_nil T sz) h
theorem Sat.map_at {A B : SP} {g : HP} (i : Nat) (hi : l[i]? = some A) (f : ∀ h, A h → B h) (h : Sat l g) : Sat (l.set i B) g :=
  Sat.set i hi h fun h' k s t d a => ⟨h', s, t, d, f h' a⟩
theorem Holds.map_at {A B : SP} (h : Holds w l) (i : Nat) (hi : l[i]? = some A) (f : ∀ h, A h → B h) : Holds w (l.set i B) := Sat.map_at i hi f h
theorem Holds.to_sl (h : Holds w l) (i : Nat) {b T sz m cap : Nat} {xs : List Value} (pr sp : List Value) (hi : l[i]? = some (cl b T (pr ++ xs ++ sp))) (h1 : xs.length = m * sz) (h2 : sp.length = (cap - m) * sz) (h3 : m ≤ cap) :
    Holds w (l.set i (sl T sz (.slice (some ⟨b, pr.length, none⟩) m cap) m xs)) :=
  h.map_at i hi fun h' a => .inr ⟨b, pr, sp, cap, rfl, h1, h2, h3, a⟩
theorem Holds.sl_at (h : Holds w l) (i : Nat) {T sz m : Nat} {v : Value} {xs : List Value} (hi : l[i]? = some (sl T sz v m xs)) :
    (v = .slice none 0 0 ∧ m = 0 ∧ xs = []) ∨ ∃ b pr sp cap, v = .slice (some ⟨b, pr.length, none⟩) m cap ∧ xs.length = m * sz ∧ sp.length = (cap - m) * sz ∧ m ≤ cap ∧ Holds w (l.set i (cl b T (pr ++ xs ++ sp))) := by
  obtain ⟨h1, k, s, t, dd, a, r⟩ := Sat.bring i hi h
  rcases a with a | ⟨b, pr, sp, cap, e1, e2, e3, e4, a⟩
  · exact .inl a
  · refine .inr ⟨b, pr, sp, cap, e1, e2, e3, e4, ?_⟩
    have hl : i < l.length := (List.getElem?_eq_some_iff.1 hi).1
    refine Sat.back i (A := cl b T (pr ++ xs ++ sp)) (by simp [hl]) ?_
    rw [List.eraseIdx_set_eq]
    exact ⟨h1, k, s, t, dd, a, r⟩
theorem Holds.sl_len (h : Holds w l) (i : Nat) {T sz m : Nat} {v : Value} {xs : List Value} (hi : l[i]? = some (sl T sz v m xs)) : xs.length = m * sz ∧ ∃ a cap, v = .slice a m cap ∧ m ≤ cap := by
  rcases h.sl_at i hi with ⟨rfl, rfl, rfl⟩ | ⟨b, pr, sp, cap, rfl, e2, e3, e4, _⟩
  · exact ⟨by simp, _, _, rfl, Nat.le_refl _⟩
  · exact ⟨e2, _, _, rfl, e4⟩
theorem Holds.cl_src (h : Holds w l) (i : Nat) {b T sz m c t e' : Nat} {xs : List Value} (hi : l[i]? = some (cl b T xs)) (hk : P.underlying t = some (.slice e')) (h1 : ∀ u ∈ xs, u.oneCell' = true) (hl : xs.length = m * sz) :
    Src P sz t (.slice (some ⟨b, 0, none⟩) m c) m xs w :=
  Src.ofSlice w hk _ _ _ _ hl (fun j u hj => by rw [add_mk, Nat.zero_add]; exact h.cl_cell i hi hj) h1
theorem setCells_eq (b : Nat) : ∀ (vs : List Value) (o : Nat) (w : World), w.setCells b o vs = setCells w b o vs
  | [], _, _ => rfl
  | v :: r, o, w => setCells_eq b r (o + 1) _
theorem Same.drew_alloc (w : World) (o : Obj) : Same w (w.drew.alloc o) := ⟨rfl, rfl, rfl⟩

theorem run_append_sl {t tx ty el sz bb m k : Nat} {z v x : Value} {xs ys : List Value} (ht : P.underlying t = some (.slice el)) (hz : tin P el = some (sz, bb, some z)) (hzs : z.cells.size = sz) (hb : 0 < bb)
    (h : Holds w l) (i : Nat) (hi : l[i]? = some (sl el sz v m xs)) (hs : Src P sz tx x k ys w) (hroom : (m + k) * bb ≤ 140737488355328) :
    ∃ v' w', (Builtin.append_ #[t, tx] ty #[v, x]).run P w = .ok v' w' ∧ Same w w' ∧ Holds w' (l.set i (sl el sz v' (m + k) (xs ++ ys))) := by
  obtain ⟨ti, hti, h1, h2, h3⟩ := tin_info hz
  have hl : i < l.length := (List.getElem?_eq_some_iff.1 hi).1
  have hset : l.set i (sl el sz v m xs) = l := by
    obtain ⟨hl, he⟩ := List.getElem?_eq_some_iff.1 hi
    rw [← he]; simp
  have hmk : m + k ≤ 140737488355328 := Nat.le_trans (Nat.le_mul_of_pos_right _ hb) hroom
  have grow : ∀ (base : Option Addr) (cap : Nat), cap < m + k → (Builtin.firstCells sz m (.slice base m cap)).run P w.drew = .ok xs.toArray w.drew → xs.length = m * sz →
      ∃ v' w', (Builtin.append_ #[t, tx] ty #[.slice base m cap, x]).run P w = .ok v' w' ∧ Same w w' ∧ Holds w' (l.set i (sl el sz v' (m + k) (xs ++ ys))) := by
    intro base cap hg hold hlen
    have hfit : Builtin.nextslicecap (m + k) cap * ti.bytes ≤ 281474976710656 := by
      rw [h2]
      have := nextslicecap_le hg
      calc Builtin.nextslicecap (m + k) cap * bb ≤ 2 * (m + k) * bb := Nat.mul_le_mul_right _ this
        _ = 2 * ((m + k) * bb) := by rw [Nat.mul_assoc]
        _ ≤ _ := by omega
    have hr := run_append_grow_src (P := P) w t tx ty el ti z ht hti h3 base m cap xs (by rw [h1]; exact hold) x k ys (by rw [h1]; exact hs) hg (by omega) hfit
    refine ⟨_, _, hr, Same.drew_alloc w _, ?_⟩
    have hge : m + k ≤ grownCap w (m + k) cap el := grownCap_ge w (m + k) cap el
    have ha := (h.drew).alloc (((xs ++ ys).toArray ++ Builtin.zeroCells z.cells (grownCap w (m + k) cap el - (m + k)))) el
    have hb' := ha.bring (i + 1) (A := sl el sz v m xs) (by simpa using hi)
    have hc := hb'.tail
    -- the new row in the old one's place
    have hd : Holds (w.drew.alloc (.cells ((xs ++ ys).toArray ++ Builtin.zeroCells z.cells (grownCap w (m + k) cap el - (m + k))) el))
        (sl el sz (.slice (some ⟨w.heap.size, 0, none⟩) (m + k) (grownCap w (m + k) cap el)) (m + k) (xs ++ ys) :: l.eraseIdx i) := by
      refine Holds.map_at (B := sl el sz (.slice (some ⟨w.heap.size, 0, none⟩) (m + k) (grownCap w (m + k) cap el)) (m + k) (xs ++ ys)) hc 0 rfl fun h' a => .inr ⟨w.heap.size, [], (Builtin.zeroCells z.cells (grownCap w (m + k) cap el - (m + k))).toList, grownCap w (m + k) cap el, rfl, ?_, ?_, hge, ?_⟩
      · rw [List.length_append, hlen, hs.newsLen, Nat.add_mul]
      · rw [Array.length_toList]
        simp [Builtin.zeroCells, hzs]
      · simpa using a
    refine Sat.back i (A := sl el sz (.slice (some ⟨w.heap.size, 0, none⟩) (m + k) (grownCap w (m + k) cap el)) (m + k) (xs ++ ys)) (by simp [hl]) ?_
    rw [List.eraseIdx_set_eq]
    exact hd
  rcases h.sl_at i hi with ⟨rfl, rfl, rfl⟩ | ⟨b, pr, sp, cap, rfl, e2, e3, e4, hh⟩
  · by_cases hk : k = 0
    · subst hk
      have hys : ys = [] := by
        have := hs.newsLen
        simpa using this
      subst hys
      refine ⟨.slice none 0 0, w, ?_, Same.refl w, by rw [show 0 + 0 = 0 by rfl, List.append_nil, hset]; exact h⟩
      rcases hs.kind with ⟨e', hk⟩ | hk <;> simp [Builtin.append_, run_underlying ht, run_underlying hk, sizeOf, typeInfo, hti, hs.len, h1, hs.cells]
    · exact grow none 0 (by omega) (run_firstCells_none _ _ _ _ _) (by simp)
  · by_cases hroom' : m + k ≤ cap
    · have hyl := hs.newsLen
      have hsp : k * sz ≤ sp.length := by
        rw [e3]
        exact Nat.mul_le_mul_right _ (by omega)
      have hi' : (l.set i (cl b el (pr ++ xs ++ sp)))[i]? = some (cl b el (pr ++ xs ++ sp)) := by simp [hl]
      have hoff : pr.length + m * sz + ys.length ≤ (pr ++ xs ++ sp).length := by simp only [List.length_append]; omega
      have hr := run_append_room_src (P := P) w t tx ty el ti ht hti b pr.length m cap x k ys (by rw [h1]; exact hs) hroom'
        (fun j hj => by
          rw [h1, hh.cl_cell i hi' (List.getElem?_eq_getElem (by omega : pr.length + m * sz + j < (pr ++ xs ++ sp).length))]; rfl)
        (fun j hj => by rw [h1]; exact hh.cl_frozen i hi' (by omega))
      rw [h1] at hr
      refine ⟨_, _, hr, by rw [setCells_eq]; exact Same.setCells b ys _ w, ?_⟩
      rw [setCells_eq]
      have hset2 := Holds.setCells i ys (pr.length + m * sz) w _ _ hh hi' hoff
      rw [List.set_set] at hset2
      have e : (pr ++ xs ++ sp).take (pr.length + m * sz) ++ ys ++ (pr ++ xs ++ sp).drop (pr.length + m * sz + ys.length) = pr ++ (xs ++ ys) ++ sp.drop ys.length := by
        have e0 : (pr ++ xs).length = pr.length + m * sz := by rw [List.length_append, e2]
        rw [← e0, List.take_left, List.drop_append, List.drop_eq_nil_of_le (by omega), show (pr ++ xs).length + ys.length - (pr ++ xs).length = ys.length by omega]
        simp [List.append_assoc]
      rw [e] at hset2
      have := Holds.map_at (B := sl el sz (.slice (some ⟨b, pr.length, none⟩) (m + k) cap) (m + k) (xs ++ ys)) hset2 i (by simp [hl]) fun h' a =>
        .inr ⟨b, pr, sp.drop ys.length, cap, rfl, by rw [List.length_append, e2, hyl, Nat.add_mul], by rw [List.length_drop, e3, hyl, ← Nat.sub_mul]; congr 1; omega, hroom', a⟩
      rwa [List.set_set] at this
    · refine grow _ cap (by omega) ?_ e2
      refine run_firstCells_some _ _ _ _ _ _ _ e2 fun j u hj => ?_
      rw [add_mk]
      have hi' : (l.set i (cl b el (pr ++ xs ++ sp)))[i]? = some (cl b el (pr ++ xs ++ sp)) := by simp [hl]
      have := hh.drew.cl_cell i hi' (k := pr.length + j) (v := u) ?_
      · exact this
      · have hj' : j < xs.length := (List.getElem?_eq_some_iff.1 hj).1
        rw [List.append_assoc, List.getElem?_append_right (by omega), show pr.length + j - pr.length = j by omega, List.getElem?_append_left hj', hj]
theorem T_append {t tx el sz bb m k : Nat} {o1 o2 : Operand} {z v x : Value} {xs ys : List Value} (h1 : ev n e o1 = v) (h2 : ev n e o2 = x) (ht : P.underlying t = some (.slice el)) (hz : tin P el = some (sz, bb, some z)) (hzs : z.cells.size = sz) (hb : 0 < bb)
    (h : Holds w l) (i : Nat) (hi : l[i]? = some (sl el sz v m xs)) (hs : Src P sz tx x k ys w) (hroom : (m + k) * bb ≤ 140737488355328)
    (kk : ∀ v' w', Same w w' → Holds w' (l.set i (sl el sz v' (m + k) (xs ++ ys))) → K v' w') :
    Stp P n e ⟨d, .call { callee := .builtin .append, args := #[o1, o2], argTypes := #[t, tx] }, ty, pos, af, g⟩ w K := by
  obtain ⟨v', w', hr, hsame, hh⟩ := run_append_sl (ty := ty) ht hz hzs hb h i hi hs hroom
  refine .inl ⟨v', w', ?_, kk v' w' hsame hh⟩
  simp only [execOp, resolve, Sem.run_bind, Sem.run_pure, Result.andThen_ok, invoke, builtin]
  simp [h1, h2, hr]

/-! ### Strings and bytes -/
def bytesV (ns : List Int) : List Value := ns.map (Value.int .u8)
def strN (ns : List Int) : ByteArray := ns.foldl (fun r n => r.push (UInt8.ofNat n.toNat)) ByteArray.empty
theorem strN_data (ns : List Int) : (strN ns).data.toList = ns.map fun n => UInt8.ofNat n.toNat := by
  have : ∀ (ns : List Int) (s : ByteArray), (ns.foldl (fun r n => r.push (UInt8.ofNat n.toNat)) s).data.toList = s.data.toList ++ ns.map fun n => UInt8.ofNat n.toNat := by
    intro ns
    induction ns with
    | nil => intro s; simp
    | cons a ns ih => intro s; simp [ih]
  simpa [strN] using this ns ByteArray.empty
theorem T_s2b {s t el : Nat} {x : Operand} {u : ByteArray} {ud : TypeDesc} (hx : ev n e x = .string u) (hs : P.underlying s = some ud) (ht : P.underlying t = some (.slice el)) (he : P.underlying el = some (.int .u8)) (h : Holds w l)
    (k : ∀ b c w', Same w w' → u.size ≤ c → Holds w' (sl el 1 (.slice (some ⟨b, 0, none⟩) u.size c) u.size (byteCells u) :: l) → K (.slice (some ⟨b, 0, none⟩) u.size c) w') :
    Stp P n e ⟨d, .convert s t x, ty, pos, af, g⟩ w K := by
  refine .inl ⟨_, _, ?_, k w.heap.size (grownCap w u.size 0 el) (Lib.bytesWorld w el u) ⟨rfl, rfl, rfl⟩ (grownCap_ge _ _ _ _) ?_⟩
  · simp only [execOp]
    rw [hx]
    exact run_v _ (Lib.run_convert_string_bytes w s t el u hs ht he)
  · have hw : hp (Lib.bytesWorld w el u) = upb (hp w) w.heap.size (.cells (Lib.bytesCells w el u) el ((Lib.bytesCells w el u).size, (Lib.bytesCells w el u).size + 1)) :=
      hp_setBlock _ _ _ _ (Lib.bytesWorld_at_new w el u) (fun c hc => by
        rcases Nat.lt_or_ge c w.heap.size with x | x
        · exact Lib.bytesWorld_at_old w el u c x
        · have h1 : (Lib.bytesWorld w el u).heap.size ≤ c := by rw [Lib.bytesWorld_size]; omega
          rw [Array.getElem?_eq_none h1, Array.getElem?_eq_none x])
    unfold Holds
    rw [hw]
    refine Sat.upb_new h (by simp [hp]) ?_
    refine .inr ⟨w.heap.size, [], List.replicate (grownCap w u.size 0 el - u.size) (Value.int .u8 0), grownCap w u.size 0 el, rfl, by rw [byteCells_length, Nat.mul_one], by simp, grownCap_ge _ _ _ _, ?_⟩
    have hc : Lib.bytesCells w el u = ([] ++ byteCells u ++ List.replicate (grownCap w u.size 0 el - u.size) (Value.int .u8 0)).toArray := by
      apply Array.ext'
      simp [Lib.bytesCells, byteCells]
    refine ⟨((Lib.bytesCells w el u).size, (Lib.bytesCells w el u).size + 1), by rw [← hc]; simp, ?_⟩
    intro i hi ⟨h1, h2⟩
    rw [hc] at h1
    simp only [List.size_toArray] at h1
    omega
theorem x_b2s {s t el m c : Nat} {x : Operand} {b off : Nat} {ns : List Int} (hx : ev n e x = .slice (some ⟨b, off, none⟩) m c) (hs : P.underlying s = some (.slice el)) (he : P.underlying el = some (.int .u8)) (ht : P.underlying t = some .string)
    (hl : ns.length = m) (hc : ∀ j v, (bytesV ns)[j]? = some v → w.cell? ⟨b, off + j, none⟩ = some v) :
    (execOp (ev n e) ⟨d, .convert s t x, ty, pos, af, g⟩).run P w = .ok (.value (.string (strN ns))) w := by
  subst hl
  simp only [execOp]
  rw [hx]
  refine run_v _ ?_
  rw [run_convert_bytes_string w s t el _ _ _ hs he ht]
  have := run_loadCells_list (P := P) w ⟨b, off, none⟩ (bytesV ns) (fun j v hj => by rw [add_mk]; exact hc j v hj)
  rw [show (bytesV ns).length = ns.length by simp [bytesV]] at this
  exact run_bytesToString w _ _ _ ns this
theorem x_b2s_nil {s t el m c : Nat} {x : Operand} (hx : ev n e x = .slice none m c) (hs : P.underlying s = some (.slice el)) (he : P.underlying el = some (.int .u8)) (ht : P.underlying t = some .string) :
    (execOp (ev n e) ⟨d, .convert s t x, ty, pos, af, g⟩).run P w = .ok (.value (.string (strN []))) w := by
  simp only [execOp]
  rw [hx]
  refine run_v _ ?_
  rw [run_convert_bytes_string w s t el _ _ _ hs he ht]
  simp [Conv.bytesToString, strN]
end
end Go.Proofs.Ytlnihndjepjagaa.Gw
set_option linter.unusedVariables false
set_option linter.unusedSimpArgs false
namespace Go.Proofs.Ytlnihndjepjagaa.Gw
open Go Go.RowKit
section
variable {P : Program} {n : Nat} {e : Env} {w : World} {K : Value → World → Prop} {Q : Exit → Act → World → Prop} {ops : Array Oper} {rest : List Oper} {ds : List Deferred}
  {d : Option Nat} {ty : TypeId} {pos : String} {af : Array Edge} {g : Option (Nat × Bool)} {l : List SP}
end
end Go.Proofs.Ytlnihndjepjagaa.Gw
set_option linter.unusedVariables false
set_option linter.unusedSimpArgs false
namespace Go.Proofs.Ytlnihndjepjagaa.Gw
open Go Go.RowKit Go.ChangeShapes Go.WideShapes Go.ChangeAt
theorem trodAll_stays {H : Type} {enc : TypeId × Value → H} {P : Program} (hl : laidOutB P = true) {W W' : World} (hb : Below W.heap.size W W') :
    ∀ (ts : List TypeId) (vs : List Value) (ds : List (DataW H)) (ps : List MemPlace), (ts.all fun t => P.readableRec t && decide (t < P.types.size)) = true →
      DataW.TrodAll enc P W 0 (fun _ => true) true ts vs ds ps → (∀ x ∈ ps, x.block < W.heap.size) → DataW.TrodAll enc P W' 0 (fun b => decide (b < W.heap.size)) true ts vs ds ps
  | [], [], [], ps, _, h, _ => h
  | t :: ts, v :: vs, d :: ds, ps, hts, h, hlt => by
    obtain ⟨p, q, h1, h2, rfl⟩ := h
    simp only [List.all_cons, Bool.and_eq_true, decide_eq_true_eq] at hts
    exact ⟨p, q, Below.trod hl hts.1.1 hts.1.2 h1 hb (fun x hx => hlt x (by simp [hx])), trodAll_stays hl hb ts vs ds q (by simpa using hts.2) h2 (fun x hx => hlt x (by simp [hx])), rfl⟩
  | [], [], _ :: _, _, _, h, _ => h.elim
  | [], _ :: _, _, _, _, h, _ => h.elim
  | _ :: _, [], _, _, _, h, _ => h.elim
  | _ :: _, _ :: _, [], _, _, h, _ => h.elim
theorem below_of_holds {W W' : World} {l : List SP} (hs : Same W W') (h : Holds W' (ro (hp W) :: l)) : Below W.heap.size W W' := by
  have hb := h.ro_sub 0 rfl
  have hblk : ∀ k, k < W.heap.size → W'.heap[k]? = W.heap[k]? := fun k hk => by
    have e : hp W k = some W.heap[k] := by simp [hp, hk]
    have := hb k _ e
    simp only [hp] at this
    rw [this]; simp [hk]
  refine ⟨hs.os, hs.tape, hs.output, ?_, hblk⟩
  rcases Nat.lt_or_ge W'.heap.size W.heap.size with h' | h'
  · have := hblk W'.heap.size h'
    rw [Array.getElem?_eq_none (Nat.le_refl _), Array.getElem?_eq_getElem h'] at this
    cases this
  · exact h'
theorem holds_init (W : World) : Holds W [ro (hp W)] :=
  ⟨hp W, (fun _ => none), Sub.rfl' _, (fun _ _ e => by cases e), (fun _ => Or.inr rfl), Sub.rfl' _, trivial⟩
theorem law_calls {P : Program} {f : FuncId} {args : Array Value} {W : World} (h : Tri P f args (hp W) [] fun v post => v = .bool true) :
    Calls P f args W fun e W' => e = .returned (.bool true) ∧ Below W.heap.size W W' :=
  (h W [] (holds_init W)).mono fun e W' ⟨v, post, he, hv, hs, hh⟩ => ⟨by rw [he, hv], below_of_holds hs hh⟩
theorem law_lift {H : Type} {enc : TypeId × Value → H} {C : Checked} {os : Os} {f : FuncId} {fn : Func} {s : ChangeSpec} {tb : TypeId} (own : ownKnob C.prog.godebug = none) (started : os.Started)
    (noInit : C.prog.inits.idxOf? f = none) (hfn : C.prog.funcs[f]? = some fn)
    (witness : ∃ (w : World) (tape : Tape) (i : Input), w.os = os ∧ (w.forCall tape i).Shaped C.prog ∧ i.vars = [] ∧ Input.okWide C.prog (w.forCall tape i) .any w.heap.size f i ∧
      s.pre6 enc C.prog fn [] false (w.forCall tape i).memory i.args ∧ Assume.holds {} C.prog (lone (Frame.enter C.prog f i.args .normal) [] (w.forCall tape i)))
    (hl : laidOutB C.prog = true) (hts : (fn.params.toList.all fun t => C.prog.readableRec t && decide (t < C.prog.types.size)) = true) (hv : s.vars = []) (hrt : fn.resultTypes = #[tb]) (htb : C.prog.underlying tb = some .bool)
    (hs : ∀ ds : List (DataW H), ds.length = fn.params.size → s.fn H ds = { results := [.lit (.bool true)], args := ds })
    (contract : ∀ (W : World) (base : Nat) (args : Array Value) (ds : List (DataW H)) (before : List MemPlace),
      (∀ (j : Nat) t v, fn.params[j]? = some t → args[j]? = some v → Value.okWide C.prog W .any base t v) → DataW.TrodAll enc C.prog W 0 (fun _ => true) true fn.params.toList args.toList ds before →
      (DataW.weightsEach C.prog fn.params.toList ds).all (· ≤ reachBytes) = true →
      Calls C.prog f args W fun e W' => e = .returned (.bool true) ∧ Below W.heap.size W W') :
    ReturnsInHanded {} C os f .any (s.pre6 enc C.prog fn [] false) (s.post enc C.prog fn false true false false) := by
  refine returnsInHanded_of_change_sized own started noInit hfn witness ?_
  intro W base args ds gs before hval hW _ hsz _
  have hW' := hW
  obtain ⟨p, q, hA, hV, rfl, hfz, hnd⟩ := hW
  rw [hv] at hV
  have hgs : gs = [] ∧ q = [] := trodVars_none hV
  obtain ⟨rfl, rfl⟩ := hgs
  have hvt : s.plain.varTypes C.prog = [] := by
    simp only [ChangeSpec.plain, DataSpec.varTypes, hv]
    rfl
  rw [hvt] at hsz
  simp only [List.append_nil] at hsz hW'
  refine (contract W base args ds p hval hA hsz).mono fun e W' ⟨he, hb⟩ => ⟨.bool true, he, ?_⟩
  have hlen : ∀ (ts : List TypeId) (vs : List Value) (ds : List (DataW H)) (ps : List MemPlace), DataW.TrodAll enc C.prog W 0 (fun _ => true) true ts vs ds ps → ds.length = ts.length := by
    intro ts
    induction ts with
    | nil => intro vs ds ps h; cases vs <;> cases ds <;> first | rfl | exact h.elim
    | cons t ts ih =>
      intro vs ds ps h
      cases vs with
      | nil => exact h.elim
      | cons v vs =>
        cases ds with
        | nil => exact h.elim
        | cons d ds => obtain ⟨p, q, _, h2, _⟩ := h; simp [ih vs ds q h2]
  have hd : s.fn H (ds ++ []) = { results := [.lit (.bool true)], args := ds } := by
    rw [List.append_nil]
    exact hs ds (by simpa using hlen _ _ _ _ hA)
  refine ⟨ds, [], p, [], p, [], hW', ?_, ?_, ?_, hb.frame _, fun h => by cases h⟩
  · rw [hd, hrt]
    exact trodAll_mk1 (shut_bool htb true)
  · rw [hd]
    exact trodAll_stays hl hb _ _ _ _ hts hA (fun x hx => hW'.lt x hx)
  · rw [hd, hv]
    rfl
end Go.Proofs.Ytlnihndjepjagaa.Gw
set_option linter.unusedVariables false
set_option linter.unusedSimpArgs false
namespace Go.Proofs.Ytlnihndjepjagaa.Gw
open Go Go.RowKit
section
variable {P : Program} {n : Nat} {e : Env} {w : World} {K : Value → World → Prop} {Q : Exit → Act → World → Prop} {ops : Array Oper} {rest : List Oper} {ds : List Deferred}
  {d : Option Nat} {ty : TypeId} {pos : String} {af : Array Edge} {g : Option (Nat × Bool)} {l : List SP}
section
variable {dd : Nat} {xs ys : Array Value} {f : Field} {fs : List Field} {a b : Value} {r s : Bool}
theorem eq_bool {t : TypeId} {x y : Bool} (hu : P.underlying t = some .bool) : (Op.equalIn (dd + 1) t (.bool x) (.bool y)).run P w = .ok (x == y) w := by
  simp only [Op.equalIn, Sem.run_bind, run_underlying hu, Result.andThen_ok, Sem.run_pure]
end
theorem x_neqB {t u : TypeId} {x y : Operand} {a b : Bool} (hx : ev n e x = .bool a) (hy : ev n e y = .bool b) (hu : P.underlying t = some .bool) :
    (execOp (ev n e) ⟨d, .binOp .neq t x y u, ty, pos, af, g⟩).run P w = .ok (.value (.bool (!(a == b)))) w := by
  simp only [execOp]
  rw [hx, hy]
  refine run_v _ ?_
  have h1 : (eqGuard .neq t x y (.bool a) (.bool b)).run P w = .ok () w := by simp [eqGuard]
  have h2 : (Op.equal t (.bool a) (.bool b)).run P w = .ok (a == b) w := eq_bool (dd := 9999) hu
  simp only [Sem.run_bind, h1, Result.andThen_ok, binOp]
  simp [h2]
end
end Go.Proofs.Ytlnihndjepjagaa.Gw
set_option linter.unusedVariables false
set_option linter.unusedSimpArgs false
namespace Go.Proofs.Ytlnihndjepjagaa.Gw
open Go Go.RowKit
section
variable {P : Program} {n : Nat} {e : Env} {w : World} {K : Value → World → Prop} {Q : Exit → Act → World → Prop} {ops : Array Oper} {rest : List Oper} {ds : List Deferred}
  {d : Option Nat} {ty : TypeId} {pos : String} {af : Array Edge} {g : Option (Nat × Bool)} {l : List SP}
def RC (R : HP) (b off : Nat) (xs : List Value) : Prop := ∀ j u, xs[j]? = some u → ∃ cs T fr, R b = some (.cells cs T fr) ∧ cs[off + j]? = some u
theorem RC.cell {R : HP} {b off : Nat} {xs : List Value} (h : RC R b off xs) (hs : Sub R (hp w)) {j : Nat} {u : Value} (hj : xs[j]? = some u) : w.cell? ⟨b, off + j, none⟩ = some u := by
  obtain ⟨cs, T, fr, hb, hc⟩ := h j u hj
  have := hs _ _ hb
  rw [cell_of_row w b (off + j) cs T fr this]
  exact hc
theorem RC.mono {R R' : HP} {b off : Nat} {xs : List Value} (h : RC R b off xs) (hs : Sub R R') : RC R' b off xs := fun j u hj => by
  obtain ⟨cs, T, fr, hb, hc⟩ := h j u hj
  exact ⟨cs, T, fr, hs _ _ hb, hc⟩
theorem RC.drop {R : HP} {b off : Nat} {xs : List Value} (h : RC R b off xs) (k : Nat) : RC R b (off + k) (xs.drop k) := fun j u hj => by
  rw [List.getElem?_drop] at hj
  obtain ⟨cs, T, fr, hb, hc⟩ := h _ u hj
  exact ⟨cs, T, fr, hb, by rw [Nat.add_assoc]; exact hc⟩
theorem RC.take {R : HP} {b off : Nat} {xs : List Value} (h : RC R b off xs) (k : Nat) : RC R b off (xs.take k) := fun j u hj => by
  rw [List.getElem?_take] at hj
  split at hj
  · exact h j u hj
  · cases hj
theorem RC.cells {R : HP} {b off : Nat} {xs : List Value} (h : RC R b off xs) (hs : Sub R (hp w)) (j : Nat) {vs : List Value} (hv : (xs.drop j).take vs.length = vs) :
    ∀ i v, vs[i]? = some v → w.cell? ((Addr.mk b (off + j) none).add i) = some v := by
  intro i v hi
  rw [add_mk, Nat.add_assoc]
  refine h.cell hs ?_
  rw [← hv] at hi
  rw [List.getElem?_take] at hi
  split at hi
  · rw [List.getElem?_drop] at hi; exact hi
  · cases hi
theorem Holds.ro_at (h : Holds w l) (i : Nat) {R : HP} (hi : l[i]? = some (ro R)) : Sub R (hp w) := h.ro_sub i hi
def RS (R : HP) (sz : Nat) (v : Value) (m : Nat) (xs : List Value) : Prop := xs.length = m * sz ∧ ∃ a cap, v = .slice a m cap ∧ m ≤ cap ∧ (0 < m → ∃ b off, a = some ⟨b, off, none⟩ ∧ RC R b off xs)
theorem RS.nil (R : HP) (sz : Nat) : RS R sz (.slice none 0 0) 0 [] := ⟨by simp, none, 0, rfl, Nat.le_refl _, fun h => absurd h (by omega)⟩
theorem RS.mono {R R' : HP} {sz m : Nat} {v : Value} {xs : List Value} (h : RS R sz v m xs) (hs : Sub R R') : RS R' sz v m xs := by
  obtain ⟨h1, a, cap, h2, h3, h4⟩ := h
  exact ⟨h1, a, cap, h2, h3, fun hm => by obtain ⟨b, off, e1, e2⟩ := h4 hm; exact ⟨b, off, e1, e2.mono hs⟩⟩
theorem RS.len {R : HP} {sz m : Nat} {v : Value} {xs : List Value} (h : RS R sz v m xs) : ∃ a cap, v = .slice a m cap ∧ m ≤ cap := by
  obtain ⟨h1, a, cap, h2, h3, h4⟩ := h
  exact ⟨a, cap, h2, h3⟩
theorem RS.at_ {R : HP} {sz m : Nat} {v : Value} {xs : List Value} (h : RS R sz v m xs) (hm : 0 < m) : ∃ b off cap, v = .slice (some ⟨b, off, none⟩) m cap ∧ m ≤ cap ∧ RC R b off xs := by
  obtain ⟨h1, a, cap, h2, h3, h4⟩ := h
  obtain ⟨b, off, rfl, e2⟩ := h4 hm
  exact ⟨b, off, cap, h2, h3, e2⟩
theorem RS.sub {R : HP} {sz m cap k : Nat} {a : Option Addr} {xs : List Value} (h : RS R sz (.slice a m cap) m xs) (hk : k ≤ m) : RS R sz (.slice a k cap) k (xs.take (k * sz)) := by
  obtain ⟨h1, a', cap', h2, h3, h4⟩ := h
  injection h2 with e1 e2 e3
  subst e1; subst e3
  refine ⟨by rw [List.length_take, h1]; exact Nat.min_eq_left (Nat.mul_le_mul_right _ hk), a, cap, rfl, by omega, fun hm => ?_⟩
  obtain ⟨b, off, e1, e2⟩ := h4 (by omega)
  exact ⟨b, off, e1, e2.take _⟩
theorem sl_RS {T sz m : Nat} {v : Value} {xs : List Value} {h R : HP} (a : sl T sz v m xs h) (hs : Sub h R) : RS R sz v m xs := by
  rcases a with ⟨rfl, rfl, rfl⟩ | ⟨b, pr, sp, cap, rfl, e2, e3, e4, fr, hb, hf⟩
  · exact RS.nil R sz
  · refine ⟨e2, _, cap, rfl, e4, fun _ => ⟨b, pr.length, rfl, fun j u hj => ⟨_, _, _, hs _ _ hb, ?_⟩⟩⟩
    have hj' : j < xs.length := (List.getElem?_eq_some_iff.1 hj).1
    simp only [List.getElem?_toArray]
    rw [List.append_assoc, List.getElem?_append_right (by omega), show pr.length + j - pr.length = j by omega, List.getElem?_append_left hj', hj]
theorem cl_RC {b T : Nat} {xs : List Value} {h R : HP} (a : cl b T xs h) (hs : Sub h R) : RC R b 0 xs := fun j u hj => by
  obtain ⟨fr, hb, _⟩ := a
  exact ⟨_, _, _, hs _ _ hb, by simpa using hj⟩
theorem RS.src {R : HP} {sz m t e' : Nat} {v : Value} {xs : List Value} (h : RS R sz v m xs) (hs : Sub R (hp w)) (hk : P.underlying t = some (.slice e')) (h1 : ∀ u ∈ xs, u.oneCell' = true) : Src P sz t v m xs w := by
  obtain ⟨hl, a, cap, rfl, h3, h4⟩ := h
  by_cases hm : 0 < m
  · obtain ⟨b, off, rfl, e2⟩ := h4 hm
    exact Src.ofSlice w hk _ _ _ _ hl (fun j u hj => by rw [add_mk]; exact e2.cell hs hj) h1
  · have : m = 0 := by omega
    subst this
    have : xs = [] := by simpa using hl
    subst this
    cases a with
    | none => exact Src.ofNil w hk cap
    | some a => exact Src.ofSlice w hk _ _ _ _ hl (fun j u hj => by simp at hj) h1
theorem x_lenRS {R : HP} {argO : Operand} {t el : TypeId} {sz m : Nat} {v : Value} {xs : List Value} (hx : ev n e argO = v) (h : RS R sz v m xs) (hu : P.underlying t = some (.slice el)) :
    (execOp (ev n e) ⟨d, .call { callee := .builtin .len, args := #[argO], argTypes := #[t] }, ty, pos, af, g⟩).run P w = .ok (.value (.int .i64 m)) w := by
  obtain ⟨a, cap, rfl, _⟩ := h.len
  exact x_lenS hx hu
theorem x_b2sRS {R : HP} {s t el m : Nat} {x : Operand} {v : Value} {ns : List Int} (hx : ev n e x = v) (h : RS R 1 v m (bytesV ns)) (hsub : Sub R (hp w)) (hs : P.underlying s = some (.slice el)) (he : P.underlying el = some (.int .u8)) (ht : P.underlying t = some .string) :
    (execOp (ev n e) ⟨d, .convert s t x, ty, pos, af, g⟩).run P w = .ok (.value (.string (strN ns))) w := by
  have hl : ns.length = m := by have := h.1; simpa [bytesV] using this
  by_cases hm : 0 < m
  · obtain ⟨b, off, cap, rfl, _, hc⟩ := h.at_ hm
    exact x_b2s hx hs he ht hl (fun j v hj => hc.cell hsub hj)
  · obtain ⟨a, cap, rfl, _⟩ := h.len
    have : m = 0 := by omega
    subst this
    have : ns = [] := by simpa using hl
    subst this
    cases a with
    | none => exact x_b2s_nil hx hs he ht
    | some a =>
      simp only [execOp]
      rw [hx]
      refine run_v _ ?_
      rw [run_convert_bytes_string w s t el _ _ _ hs he ht]
      exact run_bytesToString w a 0 cap [] (by simp [loadCells, loadCellsFrom])
/-! ### A slice of one's own -/
theorem Holds.sl_open (h : Holds w l) (i : Nat) {T sz m : Nat} {v : Value} {xs : List Value} (hi : l[i]? = some (sl T sz v m xs)) (hm : 0 < m) :
    ∃ b pr sp cap, v = .slice (some ⟨b, pr.length, none⟩) m cap ∧ xs.length = m * sz ∧ sp.length = (cap - m) * sz ∧ m ≤ cap ∧ Holds w (l.set i (cl b T (pr ++ xs ++ sp))) := by
  rcases h.sl_at i hi with ⟨_, h0, _⟩ | h
  · omega
  · exact h
theorem x_lenSl {argO : Operand} {t el : TypeId} {T sz m : Nat} {v : Value} {xs : List Value} (hx : ev n e argO = v) (h : Holds w l) (i : Nat) (hi : l[i]? = some (sl T sz v m xs)) (hu : P.underlying t = some (.slice el)) :
    (execOp (ev n e) ⟨d, .call { callee := .builtin .len, args := #[argO], argTypes := #[t] }, ty, pos, af, g⟩).run P w = .ok (.value (.int .i64 m)) w := by
  obtain ⟨_, a, cap, rfl, _⟩ := h.sl_len i hi
  exact x_lenS hx hu
theorem Holds.sl_RSw (h : Holds w l) (i : Nat) {T sz m : Nat} {v : Value} {xs : List Value} (hi : l[i]? = some (sl T sz v m xs)) : RS (hp w) sz v m xs := by
  obtain ⟨h', s, a⟩ := Sat.at i hi h
  exact sl_RS a s
/-! ### Lending what is ours to a call that only reads -/
theorem Tri.lend {f : FuncId} {args : Array Value} {R : HP} {A : SP} {pre : List SP} {Qc : Value → List SP → Prop} (h : ∀ h0 : HP, A h0 → Dis R h0 → Tri P f args (un R h0) pre Qc) :
    Tri P f args R (A :: pre) fun v post => ∃ post', post = A :: post' ∧ Qc v post' := by
  intro w F H
  obtain ⟨h0, a, dd, H'⟩ := Holds.lend H
  refine (h h0 a dd w F H').mono fun r w' ⟨v, post, er, q, s, hh⟩ => ⟨v, A :: post, er, ⟨post, rfl, q⟩, s, ?_⟩
  exact Holds.back a dd hh
end
end Go.Proofs.Ytlnihndjepjagaa.Gw
set_option linter.unusedVariables false
set_option linter.unusedSimpArgs false
namespace Go.Proofs.Ytlnihndjepjagaa.Gw
open Go Go.RowKit Go.ChangeShapes Go.WideShapes Go.ChangeAt
section
variable {H : Type} {enc : TypeId × Value → H} {P : Program} {w : World} {base : Nat} {spare : Nat → Bool} {held : Bool} {t : TypeId} {fuel n : Nat} {cs : List Value} {c : Value}
def Reads (enc : TypeId × Value → H) (P : Program) (w : World) (base : Nat) (spare : Nat → Bool) (held : Bool) (t : TypeId) (cs : List Value) : Prop := ∃ fuel y, DataW.trod enc P w base spare held fuel t cs = some y
theorem inv_int {k : IntKind} (hu : P.underlying t = some (.int k)) (h : Reads enc P w base spare held t [c]) : ∃ a, c = .int k a ∧ (Lit.int k a).wf = true := by
  obtain ⟨fuel, y, h⟩ := h
  obtain ⟨a, e, _, wf⟩ := DataW.trod_int hu h
  simp at e
  exact ⟨a, e, wf⟩
theorem inv_bool (hu : P.underlying t = some .bool) (h : Reads enc P w base spare held t [c]) : ∃ a, c = .bool a := by
  obtain ⟨fuel, y, h⟩ := h
  cases fuel with
  | zero => simp [DataW.trod] at h
  | succ m =>
    unfold DataW.trod at h
    rw [hu] at h
    split at h <;> simp_all
theorem inv_string (hu : P.underlying t = some .string) (h : Reads enc P w base spare held t [c]) : ∃ s : ByteArray, c = .string s ∧ s.size ≤ maxLen := by
  obtain ⟨fuel, y, h⟩ := h
  cases fuel with
  | zero => simp [DataW.trod] at h
  | succ m =>
    unfold DataW.trod at h
    rw [hu] at h
    split at h <;> simp_all
theorem mapM_all {α β : Type} {f : α → Option β} : ∀ {l : List α} {r : List β}, l.mapM f = some r → ∀ x ∈ l, ∃ y, f x = some y
  | [], _, _, x, hx => by cases hx
  | a :: l, r, h, x, hx => by
    rw [List.mapM_cons] at h
    cases ha : f a with
    | none => rw [ha] at h; cases h
    | some b =>
      rw [ha] at h
      cases hl : l.mapM f with
      | none => rw [hl] at h; cases h
      | some bs =>
        rcases List.mem_cons.1 hx with rfl | hx
        · exact ⟨b, ha⟩
        · exact mapM_all hl x hx
theorem reads_of_trod {v : Value} {d : DataW H} {ps : List MemPlace} (h : DataW.Trod enc P w base spare held t v d ps) : Reads enc P w base spare held t v.cells.toList := by
  obtain ⟨fuel, h⟩ := h
  exact ⟨fuel, _, h⟩
end
end Go.Proofs.Ytlnihndjepjagaa.Gw
set_option linter.unusedVariables false
namespace Go.Proofs.Ytlnihndjepjagaa
open Go Gw
theorem foll : Try.prog.follows .mixedOrders = true := by kernel_rfl
theorem z0 : tin Try.prog 0 = some (1, 0, some (Value.tuple #[])) := by kernel_rfl
theorem z2 : tin Try.prog 2 = some (1, 8, some (Value.int .i64 0)) := by kernel_rfl
theorem z3 : tin Try.prog 3 = some (1, 8, some (Value.int .i64 0)) := by kernel_rfl
theorem z4 : tin Try.prog 4 = some (1, 1, some (Value.bool false)) := by kernel_rfl
theorem z5 : tin Try.prog 5 = some (1, 1, some (Value.int .u8 0)) := by kernel_rfl
theorem z9 : tin Try.prog 9 = some (1, 16, some (Value.string ByteArray.empty)) := by kernel_rfl
theorem z25 : tin Try.prog 25 = some (21, 208, some (Value.agg #[(Value.int .i64 0), (Value.string ByteArray.empty), (Value.string ByteArray.empty), (Value.string ByteArray.empty), (Value.int .i64 0), (Value.int .i64 0), (Value.int .i64 0), (Value.int .i64 0), (Value.int .i64 0), (Value.int .i64 0), (Value.int .i64 0), (Value.int .i64 0), (Value.int .i64 0), (Value.bool false), (Value.bool false), (Value.bool false), (Value.bool false), (Value.bool false), (Value.slice none 0 0), (Value.slice none 0 0), (Value.slice none 0 0)])) := by kernel_rfl
theorem z30 : tin Try.prog 30 = some (1, 24, some (Value.slice none 0 0)) := by kernel_rfl
theorem z31 : tin Try.prog 31 = some (1, 8, some (Value.nilFunc)) := by kernel_rfl
theorem z44 : tin Try.prog 44 = some (5, 56, some (Value.agg #[(Value.string ByteArray.empty), (Value.string ByteArray.empty), (Value.bool false), (Value.int .i64 0), (Value.int .i64 0)])) := by kernel_rfl
theorem z46 : tin Try.prog 46 = some (1, 24, some (Value.slice none 0 0)) := by kernel_rfl
theorem z51 : tin Try.prog 51 = some (3, 40, some (Value.agg #[(Value.int .i64 0), (Value.string ByteArray.empty), (Value.string ByteArray.empty)])) := by kernel_rfl
theorem z53 : tin Try.prog 53 = some (1, 8, some (Value.nilFunc)) := by kernel_rfl
theorem z109 : tin Try.prog 109 = some (1, 16, some (Value.nilIface)) := by kernel_rfl
theorem z111 : tin Try.prog 111 = some (2, 32, some (Value.agg #[(Value.nilIface), (Value.nilIface)])) := by kernel_rfl
theorem z131 : tin Try.prog 131 = some (6, 64, some (Value.agg #[(Value.string ByteArray.empty), (Value.string ByteArray.empty), (Value.bool false), (Value.int .i64 0), (Value.int .i64 0), (Value.int .i64 0)])) := by kernel_rfl
theorem z149 : tin Try.prog 149 = some (1, 8, some (Value.pointer none)) := by kernel_rfl
theorem z182 : tin Try.prog 182 = some (1, 8, some (Value.pointer none)) := by kernel_rfl
theorem z183 : tin Try.prog 183 = some (1, 8, some (Value.int .i64 0)) := by kernel_rfl
theorem z185 : tin Try.prog 185 = some (8, 96, some (Value.agg #[(Value.nilIface), (Value.nilIface), (Value.nilIface), (Value.nilIface), (Value.pointer none), (Value.pointer none), (Value.pointer none), (Value.int .i64 0)])) := by kernel_rfl
theorem z205 : tin Try.prog 205 = some (0, 0, some (Value.agg #[])) := by kernel_rfl
theorem z218 : tin Try.prog 218 = some (1, 8, some (Value.pointer none)) := by kernel_rfl
theorem z222 : tin Try.prog 222 = some (1, 8, some (Value.agg #[(Value.int .i64 0)])) := by kernel_rfl
theorem z228 : tin Try.prog 228 = some (1, 8, some (Value.nilFunc)) := by kernel_rfl
theorem z229 : tin Try.prog 229 = some (1, 8, some (Value.nilFunc)) := by kernel_rfl
theorem cb11 : callable Try.prog 11 = true := by kernel_rfl
theorem cb14 : callable Try.prog 14 = true := by kernel_rfl
theorem cb15 : callable Try.prog 15 = true := by kernel_rfl
theorem cb17 : callable Try.prog 17 = true := by kernel_rfl
theorem cb18 : callable Try.prog 18 = true := by kernel_rfl
theorem cb19 : callable Try.prog 19 = true := by kernel_rfl
theorem cb20 : callable Try.prog 20 = true := by kernel_rfl
theorem cb38 : callable Try.prog 38 = true := by kernel_rfl
theorem cb40 : callable Try.prog 40 = true := by kernel_rfl
theorem cb42 : callable Try.prog 42 = true := by kernel_rfl
theorem cb43 : callable Try.prog 43 = true := by kernel_rfl
theorem cb44 : callable Try.prog 44 = true := by kernel_rfl
theorem cb46 : callable Try.prog 46 = true := by kernel_rfl
theorem cb49 : callable Try.prog 49 = true := by kernel_rfl
theorem cb50 : callable Try.prog 50 = true := by kernel_rfl
theorem cb51 : callable Try.prog 51 = true := by kernel_rfl
theorem cb52 : callable Try.prog 52 = true := by kernel_rfl
theorem cb53 : callable Try.prog 53 = true := by kernel_rfl
theorem cb54 : callable Try.prog 54 = true := by kernel_rfl
theorem cb55 : callable Try.prog 55 = true := by kernel_rfl
theorem cb62 : callable Try.prog 62 = true := by kernel_rfl
theorem cb67 : callable Try.prog 67 = true := by kernel_rfl
theorem cb68 : callable Try.prog 68 = true := by kernel_rfl
theorem cb69 : callable Try.prog 69 = true := by kernel_rfl
theorem cb72 : callable Try.prog 72 = true := by kernel_rfl
theorem cb76 : callable Try.prog 76 = true := by kernel_rfl
theorem cb77 : callable Try.prog 77 = true := by kernel_rfl
theorem cb89 : callable Try.prog 89 = true := by kernel_rfl
theorem cb135 : callable Try.prog 135 = true := by kernel_rfl
theorem cb136 : callable Try.prog 136 = true := by kernel_rfl
theorem cb137 : callable Try.prog 137 = true := by kernel_rfl
theorem cb138 : callable Try.prog 138 = true := by kernel_rfl
theorem cb142 : callable Try.prog 142 = true := by kernel_rfl
theorem cb147 : callable Try.prog 147 = true := by kernel_rfl
theorem cb148 : callable Try.prog 148 = true := by kernel_rfl
theorem cb153 : callable Try.prog 153 = true := by kernel_rfl
theorem cb155 : callable Try.prog 155 = true := by kernel_rfl
theorem cb158 : callable Try.prog 158 = true := by kernel_rfl
theorem cb161 : callable Try.prog 161 = true := by kernel_rfl
theorem cb162 : callable Try.prog 162 = true := by kernel_rfl
theorem cb163 : callable Try.prog 163 = true := by kernel_rfl
theorem cb167 : callable Try.prog 167 = true := by kernel_rfl
theorem cb168 : callable Try.prog 168 = true := by kernel_rfl
theorem cb171 : callable Try.prog 171 = true := by kernel_rfl
theorem cb172 : callable Try.prog 172 = true := by kernel_rfl
theorem cb175 : callable Try.prog 175 = true := by kernel_rfl
end Go.Proofs.Ytlnihndjepjagaa
set_option linter.unusedVariables false
set_option linter.unusedSimpArgs false
namespace Go.Proofs.Ytlnihndjepjagaa.Gw
open Go Go.RowKit
section
variable {P : Program} {n : Nat} {e : Env} {w : World} {K : Value → World → Prop} {Q : Exit → Act → World → Prop} {ops : Array Oper} {rest : List Oper} {ds : List Deferred}
  {d : Option Nat} {ty : TypeId} {pos : String} {af : Array Edge} {g : Option (Nat × Bool)} {l : List SP}
def sb : Value → Nat
  | .slice (some ⟨b, _, _⟩) _ _ => b
  | _ => 0
def so : Value → Nat
  | .slice (some ⟨_, o, _⟩) _ _ => o
  | _ => 0
theorem RS.rc {R : HP} {sz m : Nat} {v : Value} {xs : List Value} (h : RS R sz v m xs) : RC R (sb v) (so v) xs := by
  obtain ⟨hl, a, cap, rfl, h3, h4⟩ := h
  by_cases hm : 0 < m
  · obtain ⟨b, off, rfl, e2⟩ := h4 hm
    exact e2
  · have : m = 0 := by omega
    subst this
    have : xs = [] := by simpa using hl
    subst this
    intro j u hj
    simp at hj
theorem RS.val {R : HP} {sz m : Nat} {v : Value} {xs : List Value} (h : RS R sz v m xs) (hm : 0 < m) : ∃ cap, v = .slice (some ⟨sb v, so v, none⟩) m cap := by
  obtain ⟨hl, a, cap, rfl, h3, h4⟩ := h
  obtain ⟨b, off, rfl, e2⟩ := h4 hm
  exact ⟨cap, rfl⟩
theorem RS.set_ {R : HP} {sz m m' : Nat} {v : Value} {xs xs' : List Value} (h : RS R sz v m xs) (hx : xs = xs') (hm : m = m') : RS R sz v m' xs' := by subst hx; subst hm; exact h
theorem x_idxRS {R : HP} {t el : TypeId} {x y : Operand} {m i sz bb : Nat} {v : Value} {xs : List Value} {z : Option Value} {k' : IntKind} {p : Addr} {ii : Int} (hx : ev n e x = v) (h : RS R sz v m xs) (hy : ev n e y = .int k' ii)
    (hu : P.underlying t = some (.slice el)) (hz : tin P el = some (sz, bb, z)) (h0 : 0 ≤ ii) (hi : ii < m) (hn : ii.toNat = i) (hp : (⟨sb v, so v + i * sz, none⟩ : Addr) = p) :
    (execOp (ev n e) ⟨d, .indexAddr t x y, ty, pos, af, g⟩).run P w = .ok (.value (.pointer (some p))) w := by
  obtain ⟨cap, hv⟩ := h.val (by omega)
  exact x_indexAddr (hx.trans hv) hy hu hz h0 hi hn hp
theorem fm_len {α : Type} {f : α → List Value} {n : Nat} (hn : ∀ x, (f x).length = n) (l : List α) : (l.flatMap f).length = l.length * n := by
  induction l with
  | nil => simp
  | cons a l ih => rw [List.flatMap_cons, List.length_append, hn, ih, List.length_cons, Nat.add_mul]; omega
theorem fm_drop {α : Type} {f : α → List Value} {n : Nat} (hn : ∀ x, (f x).length = n) : ∀ {l : List α} {k : Nat} {x : α}, l[k]? = some x → (l.flatMap f).drop (k * n) = f x ++ (l.drop (k + 1)).flatMap f
  | [], k, x, h => by simp at h
  | a :: l, 0, x, h => by
    simp only [List.getElem?_cons_zero, Option.some.injEq] at h
    subst h
    simp
  | a :: l, k + 1, x, h => by
    have ih := fm_drop hn (l := l) (k := k) (x := x) (by simpa using h)
    rw [List.flatMap_cons, Nat.add_mul, Nat.one_mul, Nat.add_comm, ← List.drop_drop, List.drop_left' (hn a), ih]
    simp
theorem fm_cell {α : Type} {f : α → List Value} {n : Nat} (hn : ∀ x, (f x).length = n) {l : List α} {k : Nat} {x : α} (hk : l[k]? = some x) {i : Nat} {u : Value} (hu : (f x)[i]? = some u) : (l.flatMap f)[k * n + i]? = some u := by
  rw [← List.getElem?_drop, fm_drop hn hk, List.getElem?_append_left (List.getElem?_eq_some_iff.1 hu).1]
  exact hu
theorem fm_cells {α : Type} {f : α → List Value} {n : Nat} (hn : ∀ x, (f x).length = n) {l : List α} {k : Nat} {x : α} (hk : l[k]? = some x) {i : Nat} {vs : List Value} (hv : ((f x).drop i).take vs.length = vs) :
    ((l.flatMap f).drop (k * n + i)).take vs.length = vs := by
  have hlen : vs.length ≤ ((f x).drop i).length := by
    have := congrArg List.length hv
    rw [List.length_take] at this
    omega
  rw [← List.drop_drop, fm_drop hn hk, List.drop_append, List.take_append_of_le_length hlen]
  exact hv
theorem elem_at {α : Type} (l : List α) (k : Nat) (h : k < l.length) : ∃ x, l[k]? = some x ∧ x ∈ l := ⟨l[k], List.getElem?_eq_getElem h, List.getElem_mem h⟩
theorem Holds.freeze (h : Holds w l) (i : Nat) {A : SP} (hi : l[i]? = some A) : ∃ R0 : HP, A R0 ∧ Holds w (l.set i (ro R0)) := by
  obtain ⟨h1, k, s, t, dd, a, r⟩ := Sat.bring i hi h
  refine ⟨h1, a, Sat.back i (A := ro h1) (by simp [(List.getElem?_eq_some_iff.1 hi).1]) ?_⟩
  rw [List.eraseIdx_set_eq]
  exact ⟨h1, k, s, t, dd, Sub.rfl' _, r⟩
theorem Holds.gift {R1 : HP} {A : SP} (h : Holds w (ro R1 :: A :: l)) : ∃ R', Sub R1 R' ∧ (∃ R0, A R0 ∧ Sub R0 R') ∧ Holds w (ro R' :: l) := by
  obtain ⟨h0, a, dd, hh⟩ := Holds.lend h
  exact ⟨un R1 h0, Sub.un_left _ _, ⟨h0, a, Sub.un_right dd⟩, hh⟩
theorem RS.one {R : HP} {sz m : Nat} {v : Value} {xs : List Value} (h : RS R sz v m xs) : v.oneCell' = true := by
  obtain ⟨a, cap, rfl, _⟩ := h.len
  rfl
theorem Holds.sl_one (h : Holds w l) (i : Nat) {T sz m : Nat} {v : Value} {xs : List Value} (hi : l[i]? = some (sl T sz v m xs)) : v.oneCell' = true := by
  obtain ⟨_, a, cap, rfl, _⟩ := h.sl_len i hi
  rfl
/-! ### A guard on what was not done -/
theorem yielded_undef {lo : List Oper} {j dj : Nat} (hj : (lo[j]?).bind (·.dst) = some dj) (hn : Nat.blt dj n = true) (hb : e dj = undef) : yielded lo.toArray (mkA n e ds).tmps j = none := by
  unfold yielded
  rw [List.getElem?_toArray, hj]
  have hn' : dj < n := by simpa using hn
  simp only [Option.bind_some, mkA]
  simp [hn', hb, undef]
theorem S_noU {lo : List Oper} {dd j dj : Nat} {c : Bool} {op : Op} (hj : (lo[j]?).bind (·.dst) = some dj) (hn : Nat.blt dj n = true) (hb : e dj = undef)
    (h : wpList P lo.toArray Q rest (mkA n (upd e dd undef) ds) w) :
    wpList P lo.toArray Q (⟨some dd, op, ty, pos, af, some (j, c)⟩ :: rest) (mkA n e ds) w :=
  wpList_step fun K' hK => by
    rw [if_neg (by simp [Region.wanted, yielded_undef (ds := ds) hj hn hb])]
    dsimp only
    rw [put_mkA]
    exact hK _ _ h
end
end Go.Proofs.Ytlnihndjepjagaa.Gw
set_option linter.unusedVariables false
set_option linter.unusedSimpArgs false
namespace Go.Proofs.Ytlnihndjepjagaa.Gw
open Go Go.RowKit Go.ChangeShapes Go.WideShapes Go.ChangeAt
section
variable {H : Type} {enc : TypeId × Value → H} {P : Program} {w : World} {base : Nat} {spare : Nat → Bool} {held : Bool} {t : TypeId} {fuel n : Nat} {cs : List Value} {c : Value}
def ReadsF (enc : TypeId × Value → H) (P : Program) (w : World) (base : Nat) (spare : Nat → Bool) (held : Bool) (fuel : Nat) (t : TypeId) (cs : List Value) : Prop := ∃ y, DataW.trod enc P w base spare held fuel t cs = some y
theorem ReadsF.reads (h : ReadsF enc P w base spare held fuel t cs) : Reads enc P w base spare held t cs := ⟨fuel, h⟩
theorem Reads.some_ (h : Reads enc P w base spare held t cs) : ∃ fuel, ReadsF enc P w base spare held fuel t cs := h
theorem ReadsF.zero (h : ReadsF enc P w base spare held 0 t cs) : False := by
  obtain ⟨y, h⟩ := h
  simp [DataW.trod] at h
theorem inv_sliceF {e : TypeId} (hu : P.underlying t = some (.slice e)) (h : ReadsF enc P w base spare held (fuel + 1) t [c]) :
    c = .slice none 0 0 ∨ ∃ a len cap, c = .slice (some a) len cap ∧ len ≤ cap ∧ cap ≤ maxLen ∧ ∀ i, i < len → ∃ xs, w.cells? base (a.add (i * P.cellsOf e)) (P.cellsOf e) = some xs ∧ ReadsF enc P w base spare held fuel e xs := by
  obtain ⟨y, h⟩ := h
  unfold DataW.trod at h
  rw [hu] at h
  split at h
  all_goals (first | (rename_i h1 h2; cases h1; done) | (rename_i h1; cases h1; done) | (cases h; done) | skip)
  · rename_i h1 h2
    simp only [List.cons.injEq, and_true] at h2
    exact .inl h2
  · rename_i e' a len cap h1 h2
    simp only [Option.some.injEq, TypeDesc.slice.injEq] at h1
    subst h1
    simp only [List.cons.injEq, and_true] at h2
    subst h2
    refine .inr ⟨a, len, cap, rfl, ?_⟩
    dsimp only at h
    split at h
    · rename_i hb
      refine ⟨hb.2.1, hb.2.2, fun i hi => ?_⟩
      rw [Option.bind_eq_some_iff] at h
      obtain ⟨elems, he, _⟩ := h
      obtain ⟨z, hz⟩ := mapM_all he i (List.mem_range.2 hi)
      rw [Option.bind_eq_some_iff] at hz
      obtain ⟨xs, h3, h4⟩ := hz
      exact ⟨xs, h3, z, h4⟩
    · cases h
theorem mapM_idx {α : Type} {f : Nat → Option α} : ∀ {n : Nat} {r : List α}, (List.range n).mapM f = some r → ∀ (i : Nat) (u : α), r[i]? = some u → f i = some u := by
  have gen : ∀ (l : List Nat) (r : List α), l.mapM f = some r → ∀ (i : Nat) (u : α), r[i]? = some u → ∃ j, l[i]? = some j ∧ f j = some u := by
    intro l
    induction l with
    | nil =>
      intro r h i u hi
      rw [List.mapM_nil] at h
      cases h
      simp at hi
    | cons a l ih =>
      intro r h i u hi
      rw [List.mapM_cons] at h
      cases ha : f a with
      | none => rw [ha] at h; cases h
      | some b =>
        rw [ha] at h
        cases hl : l.mapM f with
        | none => rw [hl] at h; cases h
        | some bs =>
          rw [hl] at h
          cases h
          cases i with
          | zero => exact ⟨a, rfl, by simpa using ha.trans (by simpa using hi)⟩
          | succ i =>
            obtain ⟨j, h1, h2⟩ := ih bs hl i u (by simpa using hi)
            exact ⟨j, by simpa using h1, h2⟩
  intro n r h i u hi
  obtain ⟨j, h1, h2⟩ := gen _ _ h i u hi
  have hj := List.getElem?_eq_some_iff.1 h1
  obtain ⟨hl, he⟩ := hj
  simp at he
  subst he
  exact h2
theorem cell_block {a : Addr} {m : Nat} {u : Value} (h : w.cell? (a.add m) = some u) : ∃ cs T fr, hp w a.block = some (.cells cs T fr) ∧ cs[a.off + m]? = some u ∧ (m = 0 → a.spot = none) := by
  unfold World.cell? at h
  have hb : (a.add m).block = a.block := by unfold Addr.add; split <;> rfl
  have ho : (a.add m).off = a.off + m := by
    unfold Addr.add
    split
    · rename_i h0; subst h0; rfl
    · rfl
  rw [hb, ho] at h
  split at h
  · rename_i cs T fr he
    split at h
    · cases h
    · rename_i hs
      refine ⟨cs, T, fr, he, h, fun h0 => ?_⟩
      subst h0
      simp [Addr.add] at hs
      exact hs
  · cases h
theorem open_list {α : Type} (F : α → List Value) (PP : α → Prop) {e : TypeId} (hn : P.cellsOf e = n) (hpos : 0 < n) (hF : ∀ x, (F x).length = n) (hu : P.underlying t = some (.slice e))
    (hel : ∀ xs, ReadsF enc P w base spare held fuel e xs → ∃ x, xs = F x ∧ PP x) (h : ReadsF enc P w base spare held (fuel + 1) t [c]) :
    ∃ (a : Option Addr) (len cap : Nat) (l : List α), c = .slice a len cap ∧ RS (hp w) n c l.length (l.flatMap F) ∧ (∀ x ∈ l, PP x) ∧ l.length ≤ maxLen := by
  rcases inv_sliceF hu h with rfl | ⟨a, len, cap, rfl, h1, h2, h3⟩
  · exact ⟨none, 0, 0, [], rfl, RS.nil _ _, fun x hx => (by cases hx), Nat.zero_le _⟩
  · subst hn
    have hx : ∀ i : Fin len, ∃ x, w.cells? base (a.add (i * P.cellsOf e)) (P.cellsOf e) = some (F x) ∧ PP x := fun i => by
      obtain ⟨xs, e1, e2⟩ := h3 i i.2
      obtain ⟨x, rfl, hp⟩ := hel xs e2
      exact ⟨x, e1, hp⟩
    have hl : ∃ l : List α, l.length = len ∧ ∀ i x, l[i]? = some x → w.cells? base (a.add (i * P.cellsOf e)) (P.cellsOf e) = some (F x) ∧ PP x := by
      refine ⟨List.ofFn fun i : Fin len => Classical.choose (hx i), List.length_ofFn, fun i x hi => ?_⟩
      rw [List.getElem?_ofFn] at hi
      split at hi
      · rename_i hlt
        cases hi
        exact Classical.choose_spec (hx ⟨i, hlt⟩)
      · cases hi
    obtain ⟨l, rfl, hl⟩ := hl
    refine ⟨some a, l.length, cap, l, rfl, ⟨fm_len hF l, some a, cap, rfl, h1, fun hm => ?_⟩, fun x hx => ?_, Nat.le_trans h1 h2⟩
    · have key : ∀ k x, l[k]? = some x → ∀ i u, (F x)[i]? = some u → ∃ cs T fr, hp w a.block = some (.cells cs T fr) ∧ cs[a.off + (k * P.cellsOf e + i)]? = some u ∧ (k * P.cellsOf e + i = 0 → a.spot = none) := by
        intro k x hk i u hi
        have hc := (hl k x hk).1
        unfold World.cells? at hc
        split at hc
        · have hc := mapM_idx hc i u hi
          by_cases hi0 : i = 0
          · subst hi0
            have : (a.add (k * P.cellsOf e)).add 0 = a.add (k * P.cellsOf e + 0) := by simp [Addr.add]
            rw [this] at hc
            exact cell_block hc
          · have : (a.add (k * P.cellsOf e)).add i = a.add (k * P.cellsOf e + i) := by
              by_cases hk0 : k * P.cellsOf e = 0
              · rw [hk0]; simp [Addr.add]
              · simp [Addr.add, hi0, hk0, Nat.add_assoc]
            rw [this] at hc
            exact cell_block hc
        · cases hc
      obtain ⟨b, off, spot⟩ := a
      have h0 : spot = none := by
        obtain ⟨x, hx0, _⟩ := elem_at l 0 hm
        have hlen := hF x
        obtain ⟨cs, T, fr, _, _, e3⟩ := key 0 x hx0 0 _ (List.getElem?_eq_getElem (by omega))
        exact e3 (by simp)
      subst h0
      refine ⟨b, off, rfl, fun j u hj => ?_⟩
      have hjl : j < (l.flatMap F).length := (List.getElem?_eq_some_iff.1 hj).1
      rw [fm_len hF] at hjl
      have hk : j / P.cellsOf e < l.length := Nat.div_lt_of_lt_mul (by rwa [Nat.mul_comm] at hjl)
      obtain ⟨x, hkx, _⟩ := elem_at l _ hk
      have hi : j % P.cellsOf e < (F x).length := by rw [hF]; exact Nat.mod_lt _ hpos
      have hdm : j / P.cellsOf e * P.cellsOf e + j % P.cellsOf e = j := by rw [Nat.mul_comm]; exact Nat.div_add_mod _ _
      have e1 := fm_cell hF hkx (List.getElem?_eq_getElem hi)
      rw [hdm, hj] at e1
      obtain ⟨cs, T, fr, e2, e3, _⟩ := key _ x hkx _ _ (List.getElem?_eq_getElem hi)
      rw [hdm] at e3
      exact ⟨cs, T, fr, e2, by rw [e3, ← e1]⟩
    · obtain ⟨i, hi, rfl⟩ := List.getElem_of_mem hx
      exact (hl i _ (List.getElem?_eq_getElem hi)).2
end
end Go.Proofs.Ytlnihndjepjagaa.Gw
set_option linter.unusedVariables false
set_option linter.unusedSimpArgs false
namespace Go.Proofs.Ytlnihndjepjagaa.Gw
open Go Go.RowKit
section
variable {P : Program} {n : Nat} {e : Env} {w : World} {K : Value → World → Prop} {Q : Exit → Act → World → Prop} {ops : Array Oper} {rest : List Oper} {ds : List Deferred}
  {d : Option Nat} {ty : TypeId} {pos : String} {af : Array Edge} {g : Option (Nat × Bool)} {l : List SP}
theorem T_invokeW {f : FuncId} {x : Operand} {lo : List Operand} {t : TypeId} {v recv : Value} {nm : String} {al : List Value} {at_ : Array TypeId} (hx : ev n e x = .iface t v)
    (hm : ∀ w, (method (P.types.size + Made.depth) t v nm).run P w = .ok (f, recv) w) (ha : recv :: lo.map (ev n e) = al) (hc : callable P f = true)
    (h : Calls P f al.toArray w fun r w' => ∃ v, r = .returned v ∧ K v w') : Stp P n e ⟨d, .call { callee := .invoke x nm, args := lo.toArray, argTypes := at_ }, ty, pos, af, g⟩ w K := by
  subst ha
  refine .inr (.inr ⟨f, _, w, ?_, h⟩)
  simp only [execOp, resolve, hx, Sem.run_bind, Sem.run_pure, Result.andThen_ok, invoke]
  simp [callMethod, hm, run_callFunc hc, List.take_of_length_le]
theorem T_invoke {f : FuncId} {x : Operand} {lo : List Operand} {t : TypeId} {v recv : Value} {nm : String} {al : List Value} {at_ : Array TypeId} {R : HP} {pre F : List SP} {Qc : Value → List SP → Prop} (hx : ev n e x = .iface t v)
    (hm : ∀ w, (method (P.types.size + Made.depth) t v nm).run P w = .ok (f, recv) w) (ha : recv :: lo.map (ev n e) = al) (hc : callable P f = true)
    (ht : Tri P f al.toArray R pre Qc) (h : Holds w (ro R :: (pre ++ F)))
    (k : ∀ v post w', Qc v post → Same w w' → Holds w' (ro R :: (post ++ F)) → K v w') : Stp P n e ⟨d, .call { callee := .invoke x nm, args := lo.toArray, argTypes := at_ }, ty, pos, af, g⟩ w K :=
  T_invokeW hx hm ha hc ((ht w F h).mono fun r w' ⟨v, post, er, q, s, hh⟩ => ⟨v, er, k v post w' q s hh⟩)
end
end Go.Proofs.Ytlnihndjepjagaa.Gw
set_option linter.unusedVariables false
set_option linter.unusedSimpArgs false
set_option linter.unusedSectionVars false
namespace Go.Proofs.Ytlnihndjepjagaa.Gw
open Go Go.RowKit
theorem lcons {α : Type} {a b : α} {l m : List α} (h : a = b) (k : l = m) : a :: l = b :: m := by subst h; subst k; rfl
theorem map_at {α β : Type} {f : α → β} {l : List α} {k : Nat} {x : α} (h : l[k]? = some x) : (l.map f)[k]? = some (f x) := by simp [h]
/-! ### Pieces made of pieces -/
def grp (l : List SP) : SP := fun h => Sat l h
theorem Holds.ungrp {w : World} {l m : List SP} (h : Holds w (grp l :: m)) : Holds w (l ++ m) := by
  obtain ⟨h1, k, s, t, d, a, r⟩ := h
  exact Sat.append.2 ⟨h1, k, s, t, d, a, r⟩
theorem Holds.grp {w : World} {l m : List SP} (h : Holds w (l ++ m)) : Holds w (Gw.grp l :: m) := by
  obtain ⟨h1, k, s, t, d, a, r⟩ := Sat.append.1 h
  exact ⟨h1, k, s, t, d, a, r⟩
/-! ### A map of one's own: its keys are 'K a', for things a that can be told apart -/
section
variable {α : Type} [DecidableEq α]
def Born (es : List MapEntry) (clock : Nat) : Prop := (∀ e ∈ es, e.born < clock) ∧ es.Pairwise fun a b => a.born ≠ b.born
def mp (K : α → Value) (b : Nat) (m : List (α × Value)) : SP := fun h => ∃ es clock, h b = some (.map es clock) ∧ es.toList.map (fun e => (e.key, e.val)) = m.map (fun p => (K p.1, p.2)) ∧ Born es.toList clock
def mget (m : List (α × Value)) (a : α) : Option Value := (m.find? fun p => p.1 = a).map (·.2)
def mset (m : List (α × Value)) (a : α) (v : Value) : List (α × Value) := if m.any (fun p => p.1 = a) then m.map (fun p => if p.1 = a then (p.1, v) else p) else m ++ [(a, v)]
structure KeyKind (P : Program) (k : TypeId) (K : α → Value) : Prop where
  inj : ∀ a b, K a = K b → a = b
  check : ∀ (w : World) (em : Bool) a, (Instr.checkKey em 10000 k (K a)).run P w = .ok () w
  find : ∀ (w : World) a (es : List MapEntry) (m : List α), es.map (·.key) = m.map K →
    (Instr.findKey k (K a) es).run P w = .ok ((m.findIdx? (· = a)).bind fun i => (es[i]?).map fun e => (i, e.val)) w
  stays : ∀ (w : World) a, (Instr.keyThatStays (K a) (K a)).run P w = .ok (K a) w
variable {P : Program} {w : World} {l : List SP} {n : Nat} {e : Env} {K' : Value → World → Prop} {d : Option Nat} {ty : TypeId} {pos : String} {af : Array Edge} {g : Option (Nat × Bool)}
theorem findNow_kind {D : TypeDesc} {K : α → Value} (hs : ∀ a b, Instr.sameNow D (K a) (K b) = some (decide (a = b))) (a : α) : ∀ (es : List MapEntry) (m : List α) (i : Nat), es.map (·.key) = m.map K →
    Instr.findNow D (K a) es i = some ((m.findIdx? (· = a)).bind fun j => (es[j]?).map fun e => (i + j, e.val))
  | [], [], i, _ => by simp [Instr.findNow]
  | [], _ :: _, i, h => by simp at h
  | _ :: _, [], i, h => by simp at h
  | e :: es, x :: m, i, h => by
    simp only [List.map_cons, List.cons.injEq] at h
    have ih := findNow_kind hs a es m (i + 1) h.2
    unfold Instr.findNow
    rw [h.1, hs]
    by_cases hx : x = a
    · subst hx
      simp [List.findIdx?_cons]
    · have hx' : ¬ a = x := fun e => hx e.symm
      simp only [hx', decide_false, List.findIdx?_cons, hx]
      rw [ih]
      cases hm : List.findIdx? (fun x => decide (x = a)) m with
      | none => simp
      | some j => simp [Nat.add_assoc, Nat.add_comm 1 j]
theorem sameBits_int (q : IntKind) (a : Int) (n : Nat) : Instr.sameBits n (.int q a) (.int q a) = true := by cases n <;> simp [Instr.sameBits]
theorem sameBits_string (a : ByteArray) (n : Nat) : Instr.sameBits n (.string a) (.string a) = true := by cases n <;> simp [Instr.sameBits, Go.MapKept.bytes_beq]
theorem checkKey_int {k : TypeId} {q : IntKind} (hk : P.underlying k = some (.int q)) (em : Bool) (v : Value) (n : Nat) : (Instr.checkKey em (n + 1) k v).run P w = .ok () w := by simp [Instr.checkKey, run_underlying hk]
theorem checkKey_string {k : TypeId} (hk : P.underlying k = some .string) (em : Bool) (v : Value) (n : Nat) : (Instr.checkKey em (n + 1) k v).run P w = .ok () w := by simp [Instr.checkKey, run_underlying hk]
theorem ba_beq (a b : ByteArray) : (a == b) = decide (a = b) := by
  rw [Bool.eq_iff_iff, Go.MapKept.bytes_beq]; simp
theorem KeyKind.int {k : TypeId} {q : IntKind} (hk : P.underlying k = some (.int q)) : KeyKind P k (Value.int q) where
  inj := fun a b h => by injection h
  check := fun w em a => checkKey_int hk em _ 9999
  find := fun w a es m h => by
    have := findNow_kind (D := .int q) (K := Value.int q) (fun a b => by simp only [Instr.sameNow, if_true]; rw [Bool.beq_eq_decide_eq]) a es m 0 h
    simp only [Instr.findKey, Sem.run_bind, run_underlying hk, Result.andThen_ok, this]
    simp
  stays := fun w a => by
    simp only [Instr.keyThatStays, sameBits_int, if_true]; rfl
theorem KeyKind.string {k : TypeId} (hk : P.underlying k = some .string) : KeyKind P k Value.string where
  inj := fun a b h => by injection h
  check := fun w em a => checkKey_string hk em _ 9999
  find := fun w a es m h => by
    have := findNow_kind (D := .string) (K := Value.string) (fun a b => by simp only [Instr.sameNow]; rw [ba_beq]) a es m 0 h
    simp only [Instr.findKey, Sem.run_bind, run_underlying hk, Result.andThen_ok, this]
    simp
  stays := fun w a => by
    simp only [Instr.keyThatStays, sameBits_string, if_true]; rfl
theorem Holds.mp_block {K : α → Value} (h : Holds w l) (i : Nat) {b : Nat} {m : List (α × Value)} (hi : l[i]? = some (mp K b m)) :
    ∃ es clock, w.heap[b]? = some (.map es clock) ∧ es.toList.map (fun e => (e.key, e.val)) = m.map (fun p => (K p.1, p.2)) ∧ Born es.toList clock := by
  obtain ⟨h', s, es, clock, a, b, c⟩ := Sat.at i hi h
  exact ⟨es, clock, s _ _ a, b, c⟩
def MpRd (K : α → Value) (b : Nat) (m : List (α × Value)) (w : World) : Prop := ∃ es clock, w.heap[b]? = some (.map es clock) ∧ es.toList.map (fun e => (e.key, e.val)) = m.map (fun p => (K p.1, p.2)) ∧ Born es.toList clock
theorem Holds.mprd {K : α → Value} (h : Holds w l) (i : Nat) {b : Nat} {m : List (α × Value)} (hi : l[i]? = some (mp K b m)) : MpRd K b m w := h.mp_block i hi
theorem run_getObj {r : Nat} {es : Array MapEntry} {clock : Nat} (h : w.heap[r]? = some (.map es clock)) : (getObj r).run P w = .ok (.map es clock) w := by simp [getObj, Sem.run, h]
theorem mp_find {K : α → Value} {es : List MapEntry} {m : List (α × Value)} (h : es.map (fun e => (e.key, e.val)) = m.map (fun p => (K p.1, p.2))) (a : α) :
    (((m.map (·.1)).findIdx? (· = a)).bind fun i => (es[i]?).map fun e => (i, e.val)) = ((m.findIdx? fun p => p.1 = a).bind fun i => (m[i]?).map fun p => (i, p.2)) := by
  have h1 : (m.map (·.1)).findIdx? (fun x => decide (x = a)) = m.findIdx? (fun p => decide (p.1 = a)) := by rw [List.findIdx?_map]; rfl
  rw [h1]
  cases m.findIdx? (fun p => decide (p.1 = a)) with
  | none => rfl
  | some i =>
    have : (es.map fun e => (e.key, e.val))[i]? = (m.map fun p => (K p.1, p.2))[i]? := by rw [h]
    simp only [List.getElem?_map] at this
    cases h2 : es[i]? <;> cases h3 : m[i]? <;> simp_all
theorem mget_idx (m : List (α × Value)) (a : α) : ((m.findIdx? fun p => p.1 = a).bind fun i => (m[i]?).map fun p => (i, p.2)).map (·.2) = mget m a := by
  unfold mget
  induction m with
  | nil => rfl
  | cons p m ih =>
    by_cases hp : p.1 = a
    · simp [List.findIdx?_cons, hp]
    · simp only [List.findIdx?_cons, hp, decide_false, List.find?_cons]
      rw [← ih]
      cases List.findIdx? (fun p => decide (p.1 = a)) m <;> simp [Function.comp_def]
theorem run_lookup {K : α → Value} {t k el : TypeId} (kk : KeyKind P k K) (ht : P.underlying t = some (.map k el)) {sz bb : Nat} {z : Value} (hz : tin P el = some (sz, bb, some z)) {b : Nat} {m : List (α × Value)} (h : MpRd K b m w) (a : α) (ok : Bool) :
    (Instr.lookup t (.map (some b)) (K a) ok).run P w = .ok (if ok then .tuple #[(mget m a).getD z, .bool (mget m a).isSome] else (mget m a).getD z) w := by
  obtain ⟨es, clock, hb, he, _⟩ := h
  have hkeys : es.toList.map (·.key) = (m.map (·.1)).map K := by
    have := congrArg (List.map (·.1)) he
    simpa [List.map_map, Function.comp_def] using this
  have hf := kk.find w a es.toList (m.map (·.1)) hkeys
  rw [mp_find he a] at hf
  have hg := mget_idx m a
  simp only [Instr.lookup, Sem.run_bind, run_underlying ht, Result.andThen_ok, run_getObj hb, Sem.run_pure, kk.check, hf]
  rw [← hg]
  cases (m.findIdx? fun p => p.1 = a).bind fun i => (m[i]?).map fun p => (i, p.2) with
  | none => simp [run_zeroValue hz]
  | some r => simp
theorem x_lookup {K : α → Value} {t k el : TypeId} {x y : Operand} {b : Nat} {m : List (α × Value)} {a : α} {ok : Bool} {sz bb : Nat} {z v : Value} (hx : ev n e x = .map (some b)) (hy : ev n e y = K a) (kk : KeyKind P k K) (ht : P.underlying t = some (.map k el))
    (hz : tin P el = some (sz, bb, some z)) (h : MpRd K b m w) (hv : (if ok then Value.tuple #[(mget m a).getD z, .bool (mget m a).isSome] else (mget m a).getD z) = v) :
    (execOp (ev n e) ⟨d, .lookup t x y ok, ty, pos, af, g⟩).run P w = .ok (.value v) w := by
  subst hv
  simp only [execOp]
  refine run_v _ ?_
  rw [hx, hy]
  exact run_lookup kk ht hz h a ok
theorem Holds.mp_set {K : α → Value} (h : Holds w l) (i : Nat) {b : Nat} {m m' : List (α × Value)} (hi : l[i]? = some (mp K b m)) {w' : World} {o' : Obj} (hw : w'.heap = w.heap.setIfInBounds b o')
    (ho : ∃ es clock, o' = .map es clock ∧ es.toList.map (fun e => (e.key, e.val)) = m'.map (fun p => (K p.1, p.2)) ∧ Born es.toList clock) : Holds w' (l.set i (mp K b m')) := by
  obtain ⟨es0, clock0, e, _, _⟩ := h.mp_block i hi
  have hb : b < w.heap.size := by
    rcases Nat.lt_or_ge b w.heap.size with x | x
    · exact x
    · rw [Array.getElem?_eq_none x] at e; cases e
  have hw : hp w' = upb (hp w) b o' := by
    refine hp_setBlock _ _ _ _ (by rw [hw]; simp [hb]) (fun c hc => by rw [hw]; simp [Ne.symm hc])
  unfold Holds
  rw [hw]
  refine Sat.upb_at i hi h (fun h ⟨_, _, e', _⟩ => ⟨_, e'⟩) fun h _ => ?_
  obtain ⟨es, clock, rfl, h1, h2⟩ := ho
  exact ⟨es, clock, by simp [upb], h1, h2⟩
theorem mset_none {m : List (α × Value)} {a : α} (h : m.findIdx? (fun p => p.1 = a) = none) (v : Value) : mset m a v = m ++ [(a, v)] := by
  unfold mset
  rw [if_neg]
  rw [List.findIdx?_eq_none_iff] at h
  simp only [List.any_eq_true, not_exists, not_and, decide_eq_true_eq]
  intro p hp hpa
  have := h p hp
  simp [hpa] at this
theorem mset_some {m : List (α × Value)} {a : α} {i : Nat} (h : m.findIdx? (fun p => p.1 = a) = some i) (nd : (m.map (·.1)).Nodup) (v : Value) : ∀ K : α → Value, (mset m a v).map (fun p => (K p.1, p.2)) = (m.map fun p => (K p.1, p.2)).modify i fun p => (K a, v) := by
  intro K
  have hany : m.any (fun p => p.1 = a) = true := by
    rw [List.findIdx?_eq_some_iff_getElem] at h
    obtain ⟨hi, h1, _⟩ := h
    exact List.any_eq_true.2 ⟨m[i], List.getElem_mem hi, h1⟩
  unfold mset
  rw [if_pos hany]
  clear hany
  induction m generalizing i with
  | nil => simp at h
  | cons p m ih =>
    simp only [List.map_cons, List.nodup_cons] at nd
    by_cases hp : p.1 = a
    · simp only [List.findIdx?_cons, hp, decide_true, if_true, Option.some.injEq] at h
      subst h
      simp only [List.map_cons, hp, if_true, List.modify_zero_cons, List.cons.injEq, true_and, List.map_map]
      refine List.map_congr_left fun q hq => ?_
      have : q.1 ≠ a := fun e => nd.1 (hp ▸ e ▸ List.mem_map_of_mem hq)
      simp [this]
    · simp only [List.findIdx?_cons, hp, decide_false] at h
      cases hm : List.findIdx? (fun p => decide (p.1 = a)) m with
      | none => rw [hm] at h; simp at h
      | some j =>
        rw [hm] at h
        simp only [Bool.false_eq_true, if_false, Option.map_some, Option.some.injEq] at h
        subst h
        simp only [List.map_cons, hp, if_false, List.modify_succ_cons]
        rw [ih hm nd.2]
theorem Born.push {es : List MapEntry} {clock : Nat} (h : Born es clock) (k v : Value) : Born (es ++ [⟨k, v, clock⟩]) (clock + 1) := by
  refine ⟨fun x hx => ?_, ?_⟩
  · rcases List.mem_append.1 hx with hx | hx
    · have := h.1 x hx; omega
    · simp only [List.mem_singleton] at hx; subst hx; show clock < clock + 1; omega
  · rw [List.pairwise_append]
    exact ⟨h.2, List.pairwise_singleton _ _, fun a ha b hb => by
      simp only [List.mem_singleton] at hb; subst hb
      have := h.1 a ha
      show a.born ≠ clock
      omega⟩
theorem Born.same {es es' : List MapEntry} {clock : Nat} (h : Born es clock) (e : es'.map (·.born) = es.map (·.born)) : Born es' clock := by
  refine ⟨fun x hx => ?_, ?_⟩
  · have : x.born ∈ es.map (·.born) := e ▸ List.mem_map_of_mem hx
    obtain ⟨y, hy, e2⟩ := List.mem_map.1 this
    rw [← e2]; exact h.1 y hy
  · have h2 : (es.map (·.born)).Pairwise (· ≠ ·) := List.pairwise_map.2 h.2
    rw [← e] at h2
    exact List.pairwise_map.1 h2
theorem run_mapUpdate {K : α → Value} {t k el : TypeId} (kk : KeyKind P k K) (ht : P.underlying t = some (.map k el)) (h : Holds w l) (i : Nat) {b : Nat} {m : List (α × Value)} (hi : l[i]? = some (mp K b m)) (nd : (m.map (·.1)).Nodup) (a : α) (v : Value) :
    ∃ w', (Instr.mapUpdate t (.map (some b)) (K a) v).run P w = .ok () w' ∧ Same w w' ∧ Holds w' (l.set i (mp K b (mset m a v))) := by
  obtain ⟨es, clock, hb, he, hbo⟩ := h.mp_block i hi
  have hkeys : es.toList.map (·.key) = (m.map (·.1)).map K := by
    have := congrArg (List.map (·.1)) he
    simpa [List.map_map, Function.comp_def] using this
  have hf := kk.find w a es.toList (m.map (·.1)) hkeys
  rw [mp_find he a] at hf
  simp only [Instr.mapUpdate, Sem.run_bind, run_underlying ht, Result.andThen_ok, run_getObj hb, kk.check, hf]
  have hlen : es.toList.length = m.length := by simpa using congrArg List.length he
  cases hm : m.findIdx? (fun p => decide (p.1 = a)) with
  | none =>
    simp only [Option.bind_none, Go.MapKept.run_setObj_map _ hb]
    refine ⟨_, rfl, ⟨rfl, rfl, rfl⟩, h.mp_set i hi (o' := .map (es.push ⟨K a, v, clock⟩) (clock + 1)) rfl ⟨_, _, rfl, ?_, ?_⟩⟩
    · rw [mset_none hm]; simp [he]
    · simpa using hbo.push (K a) v
  | some j =>
    have hj : j < m.length := by
      rw [List.findIdx?_eq_some_iff_getElem] at hm
      exact hm.1
    have hj' : j < es.toList.length := by omega
    have hjs : j < es.size := by simpa using hj'
    have hk : (es[j]?).map (·.key) = some (K a) := by
      have h1 := congrArg (fun l : List (Value × Value) => l[j]?) he
      simp only [List.getElem?_map] at h1
      rw [List.findIdx?_eq_some_iff_getElem] at hm
      obtain ⟨_, hp, _⟩ := hm
      have hp' : m[j].1 = a := by simpa using hp
      rw [List.getElem?_eq_getElem hj, List.getElem?_eq_getElem hj'] at h1
      simp only [Option.map_some, Option.some.injEq, Prod.mk.injEq, hp'] at h1
      simp [hjs, ← h1.1]
    simp only [Option.bind_some, List.getElem?_eq_getElem hj, Option.map_some, hk, Option.getD_some, kk.stays, Sem.run_bind, Result.andThen_ok, Go.MapKept.run_setObj_map _ hb]
    refine ⟨_, rfl, ⟨rfl, rfl, rfl⟩, h.mp_set i hi (o' := .map (es.modify j fun e => { e with key := K a, val := v }) clock) rfl ⟨_, _, rfl, ?_, ?_⟩⟩
    · rw [mset_some hm nd v K, ← he, Array.toList_modify]
      apply List.ext_getElem? ; intro q
      simp only [List.getElem?_map, List.getElem?_modify]
      cases es.toList[q]? <;> simp <;> split <;> simp_all
    · refine hbo.same ?_
      rw [Array.toList_modify]
      apply List.ext_getElem? ; intro q
      simp only [List.getElem?_map, List.getElem?_modify]
      cases es.toList[q]? <;> simp <;> split <;> simp_all
theorem T_mapUpdate {K : α → Value} {t k el : TypeId} {x y z : Operand} {b : Nat} {m : List (α × Value)} {a : α} {v : Value} (hx : ev n e x = .map (some b)) (hy : ev n e y = K a) (hz : ev n e z = v) (kk : KeyKind P k K) (ht : P.underlying t = some (.map k el))
    (h : Holds w l) (i : Nat) (hi : l[i]? = some (mp K b m)) (nd : (m.map (·.1)).Nodup) (c : ∀ w', Same w w' → Holds w' (l.set i (mp K b (mset m a v))) → K' undef w') : Stp P n e ⟨d, .mapUpdate t x y z, ty, pos, af, g⟩ w K' := by
  obtain ⟨w', hr, hs, hh⟩ := run_mapUpdate kk ht h i hi nd a v
  refine .inr (.inl ⟨w', ?_, c w' hs hh⟩)
  simp only [execOp, hx, hy, hz]
  simp [hr]
theorem T_makeMap {t : TypeId} (K : α → Value) (h : Holds w l) (c : ∀ b w', Same w w' → Holds w' (mp K b [] :: l) → K' (.map (some b)) w') : Stp P n e ⟨d, .makeMap t none, ty, pos, af, g⟩ w K' := by
  refine T_new (obj := .map #[] 0) (f := fun b => .map (some b)) (A := fun b => mp K b []) ?_ (fun l h => ?_) h c
  · simp only [execOp]; rfl
  · refine Sat.head_map (A := ob w.heap.size (.map #[] 0)) ?_ (h.allocOb (.map #[] 0))
    intro h' a
    exact ⟨#[], 0, a, rfl, (fun x hx => by simp at hx), List.Pairwise.nil⟩
end
end Go.Proofs.Ytlnihndjepjagaa.Gw
set_option linter.unusedVariables false
set_option linter.unusedSimpArgs false
set_option linter.unusedSectionVars false
namespace Go.Proofs.Ytlnihndjepjagaa.Gw
open Go Go.RowKit
section
variable {P : Program} {n : Nat} {e : Env} {w : World} {K : Value → World → Prop} {d : Option Nat} {ty : TypeId} {pos : String} {af : Array Edge} {g : Option (Nat × Bool)} {l : List SP}
/-! ### Elements of a slice of one's own -/
theorem sl_cell {T sz m : Nat} {v : Value} {xs : List Value} (h : Holds w l) (j : Nat) (hj : l[j]? = some (sl T sz v m xs)) {k : Nat} {u : Value} (hk : xs[k]? = some u) : w.cell? ⟨sb v, so v + k, none⟩ = some u := by
  have hr := h.sl_RSw j hj
  have hlen := hr.1
  have hk' := (List.getElem?_eq_some_iff.1 hk).1
  have hm : 0 < m := by
    rcases Nat.eq_zero_or_pos m with h0 | h0
    · rw [h0, Nat.zero_mul] at hlen; omega
    · exact h0
  obtain ⟨b, off, cap, rfl, _, hc⟩ := hr.at_ hm
  exact hc.cell (Sub.rfl' _) hk
/-! ### A family of blocks of one type -/
theorem Holds.ro_less {R R' : HP} (h : Holds w (ro R' :: l)) (s : Sub R R') : Holds w (ro R :: l) := Sat.head_map (fun _ a => Sub.trans' s a) h
theorem flatMap_one {α : Type} (f : α → Value) (l : List α) : (l.flatMap fun a => [f a]) = l.map f := by
  induction l with
  | nil => rfl
  | cons a l ih => simp [ih]
section
variable {H : Type} {enc : TypeId × Value → H} {base : Nat} {spare : Nat → Bool} {held : Bool} {fuel : Nat} {t : TypeId} {xs : List Value}
theorem elem_int {k : IntKind} (hu : P.underlying t = some (.int k)) (h : ReadsF enc P w base spare held fuel t xs) : ∃ a, xs = [.int k a] ∧ (Lit.int k a).wf = true := by
  obtain ⟨y, h⟩ := h
  obtain ⟨a, e, _, wf⟩ := DataW.trod_int hu h
  exact ⟨a, e, wf⟩
end
/-! ### What stays readable -/
def SlRd (v : Value) (xs : List Value) (w : World) : Prop := ∀ (k : Nat) (u : Value), xs[k]? = some u → w.cell? ⟨sb v, so v + k, none⟩ = some u
theorem Holds.slrd {T sz m : Nat} {v : Value} {xs : List Value} (h : Holds w l) (j : Nat) (hj : l[j]? = some (sl T sz v m xs)) : SlRd v xs w := fun _ _ hk => sl_cell h j hj hk
theorem SlRd.cells {v : Value} {xs : List Value} (h : SlRd v xs w) (j : Nat) {vs : List Value} (hv : (xs.drop j).take vs.length = vs) : ∀ i u, vs[i]? = some u → w.cell? ((Addr.mk (sb v) (so v + j) none).add i) = some u := by
  intro i u hi
  rw [add_mk, Nat.add_assoc]
  refine h _ _ ?_
  rw [← hv] at hi
  rw [List.getElem?_take] at hi
  split at hi
  · rw [List.getElem?_drop] at hi; exact hi
  · cases hi
theorem x_idxSlR {R : HP} {t el : TypeId} {x y : Operand} {m i sz bb : Nat} {v : Value} {xs : List Value} {z : Option Value} {k' : IntKind} {p : Addr} {ii : Int} (hx : ev n e x = v) (h : RS R sz v m xs) (hy : ev n e y = .int k' ii)
    (hu : P.underlying t = some (.slice el)) (hz : tin P el = some (sz, bb, z)) (h0 : 0 ≤ ii) (hi : ii < m) (hn : ii.toNat = i) (hp : (⟨sb v, so v + i * sz, none⟩ : Addr) = p) :
    (execOp (ev n e) ⟨d, .indexAddr t x y, ty, pos, af, g⟩).run P w = .ok (.value (.pointer (some p))) w := x_idxRS hx h hy hu hz h0 hi hn hp
/-! ### A method of what a pointer points to -/
theorem T_invokeWw {f : FuncId} {x : Operand} {lo : List Operand} {t : TypeId} {v recv : Value} {nm : String} {al : List Value} {at_ : Array TypeId} (hx : ev n e x = .iface t v)
    (hm : (method (P.types.size + Made.depth) t v nm).run P w = .ok (f, recv) w) (ha : recv :: lo.map (ev n e) = al) (hc : callable P f = true)
    (h : Calls P f al.toArray w fun r w' => ∃ v, r = .returned v ∧ K v w') : Stp P n e ⟨d, .call { callee := .invoke x nm, args := lo.toArray, argTypes := at_ }, ty, pos, af, g⟩ w K := by
  subst ha
  refine .inr (.inr ⟨f, _, w, ?_, h⟩)
  simp only [execOp, resolve, hx, Sem.run_bind, Sem.run_pure, Result.andThen_ok, invoke]
  simp [callMethod, hm, run_callFunc hc, List.take_of_length_le]
end
end Go.Proofs.Ytlnihndjepjagaa.Gw
set_option linter.unusedVariables false
set_option linter.unusedSimpArgs false
namespace Go.Proofs.Ytlnihndjepjagaa.Gw
open Go Go.RowKit
section
variable {P : Program} {n : Nat} {e : Env} {w : World} {K : Value → World → Prop} {Q : Exit → Act → World → Prop} {ops : Array Oper} {rest : List Oper} {ds : List Deferred}
  {d : Option Nat} {ty : TypeId} {pos : String} {af : Array Edge} {g : Option (Nat × Bool)} {l : List SP}
theorem run_extLoad (b : Nat) : ∀ (ns : List Int) (off : Nat) (acc : ByteArray), (∀ j v, (bytesV ns)[j]? = some v → w.cell? ⟨b, off + j, none⟩ = some v) →
    (Extern.Bytes.loadBytes ⟨b, off, none⟩ ns.length acc).run P w = .ok (ns.foldl (fun r n => r.push (UInt8.ofNat n.toNat)) acc) w
  | [], off, acc, _ => rfl
  | x :: ns, off, acc, h => by
    have h0 := h 0 (.int .u8 x) rfl
    simp only [Nat.add_zero] at h0
    have ih := run_extLoad b ns (off + 1) (acc.push (UInt8.ofNat x.toNat)) (fun j v hj => by have := h (j + 1) v hj; rwa [show off + 1 + j = off + (j + 1) by omega])
    simp only [List.length_cons, Extern.Bytes.loadBytes, Sem.run_bind, run_load, h0, Result.andThen_ok, List.foldl_cons]
    rw [add_mk]
    exact ih
theorem run_extBytes {m : Nat} {v : Value} {ns : List Int} (h : RS (hp w) 1 v m (bytesV ns)) : (Extern.Bytes.bytesOf v).run P w = .ok (strN ns) w := by
  have hl : ns.length = m := by have := h.1; simpa [bytesV] using this
  by_cases hm : 0 < m
  · obtain ⟨b, off, cap, rfl, _, hc⟩ := h.at_ hm
    subst hl
    exact run_extLoad b ns off ByteArray.empty (fun j v hj => hc.cell (Sub.rfl' _) hj)
  · obtain ⟨a, cap, rfl, _⟩ := h.len
    have : m = 0 := by omega
    subst this
    have : ns = [] := by simpa using hl
    subst this
    cases a <;> rfl
def ints (u : ByteArray) : List Int := u.data.toList.map fun b => (b.toNat : Int)
theorem byteCells_bytesV (u : ByteArray) : byteCells u = bytesV (ints u) := by simp [byteCells, bytesV, ints]
theorem ints_length (u : ByteArray) : (ints u).length = u.size := by simp [ints]
theorem toList_data (u : ByteArray) : u.toList = u.data.toList := by rw [ByteArray.toList_eq]
def u8s (ns : List Int) : List UInt8 := ns.map fun n => UInt8.ofNat n.toNat
theorem strN_u8s (ns : List Int) : (strN ns).data.toList = u8s ns := strN_data ns
theorem T_bcmp {f : FuncId} {fn : Func} {x : Operand} {lo : List Operand} {at_ : Array TypeId} {u v : Value} {j k : Nat} {xs ys : List Int} (hf : P.funcs[f]? = some fn) (hn : (fn.name == "runtime.NumGoroutine") = false) (hb : fn.body.isNone = true)
    (h1 : (Extern.findNext fn).isNone = true) (h2 : Extern.find fn = some Extern.BytealgCompare.compare) (hx : ev n e x = .func (.func f) #[] #[]) (ha : lo.map (ev n e) = [u, v])
    (hu : RS (hp w) 1 u j (bytesV xs)) (hv : RS (hp w) 1 v k (bytesV ys)) (kk : K (.int .i64 (Lib.compareBytes (u8s xs) (u8s ys))) w) :
    Stp P n e ⟨d, .call { callee := .value x, args := lo.toArray, argTypes := at_ }, ty, pos, af, g⟩ w K := by
  refine .inl ⟨_, w, ?_, kk⟩
  have hn' : ¬ fn.name = "runtime.NumGoroutine" := by simpa using hn
  have hb' : fn.body = none := by simpa using hb
  have h1' : Extern.findNext fn = none := by simpa using h1
  have hargs : lo.toArray.map (ev n e) = #[u, v] := by simp [ha]
  simp only [execOp, resolve, hx, hargs, Deferred.ofValue, Sem.run_bind, Sem.run_pure, Result.andThen_ok, invoke]
  have hc : (Extern.BytealgCompare.compare #[u, v]).run P w = .ok (.int .i64 (Lib.compareBytes (u8s xs) (u8s ys))) w := by
    change Sem.run P (do pure (goInt (Extern.BytealgCompare.cmp (← Extern.Bytes.bytesOf u) (← Extern.Bytes.bytesOf v)))) w = _
    simp only [Sem.run_bind, Sem.run_pure, run_extBytes hu, run_extBytes hv, Result.andThen_ok]
    rw [Lib.cmp_eq, strN_u8s, strN_u8s]
    rfl
  simp [callFunc, hf, hn', hb', h1', h2, hc]
end
end Go.Proofs.Ytlnihndjepjagaa.Gw
set_option linter.unusedVariables false
set_option linter.unusedSimpArgs false
set_option linter.unusedSectionVars false
namespace Go.Proofs.Ytlnihndjepjagaa.Gw
open Go Go.RowKit
section
variable {P : Program} {n : Nat} {e : Env} {w : World} {K : Value → World → Prop} {Q : Exit → Act → World → Prop} {d : Option Nat} {ty : TypeId} {pos : String} {af : Array Edge} {g : Option (Nat × Bool)} {l : List SP} {ds : List Deferred}
theorem so_add {a b : ByteArray} (h : a.size + b.size ≤ 9223372036854775807) : (Op.stringOp .add a b).run P w = .ok (.string (a ++ b)) w := by
  have : ¬ (((a.size + b.size : Nat) : Int) > IntKind.i64.max) := by
    have : IntKind.i64.max = 9223372036854775807 := by decide
    omega
  simp only [Op.stringOp, this, if_false]; rfl
def Byt (ns : List Int) : Prop := ∀ b ∈ ns, 0 ≤ b ∧ b < 256
theorem Byt.nil : Byt [] := fun b h => by cases h
theorem Byt.cons {a : Int} {b : List Int} (h : 0 ≤ a ∧ a < 256) (k : Byt b) : Byt (a :: b) := fun x hx => (List.mem_cons.1 hx).elim (fun e => e ▸ h) (k x)
theorem Byt.left {a b : List Int} (h : Byt (a ++ b)) : Byt a := fun x hx => h x (List.mem_append_left _ hx)
theorem Byt.right {a b : List Int} (h : Byt (a ++ b)) : Byt b := fun x hx => h x (List.mem_append_right _ hx)
/-! ### Regions whose order is open: shorter words -/
theorem A_tk {lo : List Oper} {S : World → Prop} {fuel : Nat} {ls : Array Bool} {Q : Exit → Act → World → Prop} (i : Nat) {dd : Nat} {op : Op} {v : Value} (hi : lo[i]? = some ⟨some dd, op, ty, pos, af, none⟩)
    (hc : (Region.noSelect lo.toArray && Region.free .any lo.toArray ls i && (Region.ready .any lo.toArray ls).contains i) = true)
    (hy : ∀ w, S w → (execOp (ev n e) ⟨some dd, op, ty, pos, af, none⟩).run P w = .ok (.value v) w) (hS : S w) (h : wpAnyH P .any lo.toArray Q S fuel (ls.setIfInBounds i true) (mkA n (upd e dd v) ds) w)
    (hQ : ∀ c a w, Q (.panic c) (a.put (some dd) v) w → Q (.panic c) a w := by exact fun _ _ _ h => h) :
    wpAnyH P .any lo.toArray Q S (fuel + 1) ls (mkA n e ds) w := by
  simp only [Bool.and_eq_true] at hc
  exact A_take i hi hc.1.1 hc.1.2 hc.2 rfl hQ hy hS h
theorem A_tkY {lo : List Oper} {S : World → Prop} {fuel : Nat} {ls : Array Bool} {Q : Exit → Act → World → Prop} (i : Nat) {dd j dj : Nat} {b : Bool} {op : Op} {v : Value} (hi : lo[i]? = some ⟨some dd, op, ty, pos, af, some (j, b)⟩)
    (hc : (Region.noSelect lo.toArray && Region.free .any lo.toArray ls i && (Region.ready .any lo.toArray ls).contains i) = true) (hj : (lo[j]?).bind (·.dst) = some dj) (hn : Nat.blt dj n = true) (hb : e dj = .bool b)
    (hy : ∀ w, S w → (execOp (ev n e) ⟨some dd, op, ty, pos, af, some (j, b)⟩).run P w = .ok (.value v) w) (hS : S w) (h : wpAnyH P .any lo.toArray Q S fuel (ls.setIfInBounds i true) (mkA n (upd e dd v) ds) w)
    (hQ : ∀ c a w, Q (.panic c) (a.put (some dd) v) w → Q (.panic c) a w := by exact fun _ _ _ h => h) :
    wpAnyH P .any lo.toArray Q S (fuel + 1) ls (mkA n e ds) w := by
  simp only [Bool.and_eq_true] at hc
  exact A_takeYes i hi hc.1.1 hc.1.2 hc.2 rfl hQ hj hn hb hy hS h
theorem A_tkN {lo : List Oper} {S : World → Prop} {fuel : Nat} {ls : Array Bool} {Q : Exit → Act → World → Prop} (i : Nat) {dd j dj : Nat} {b c : Bool} {op : Op} (hi : lo[i]? = some ⟨some dd, op, ty, pos, af, some (j, c)⟩)
    (hc : (Region.noSelect lo.toArray && Region.free .any lo.toArray ls i && (Region.ready .any lo.toArray ls).contains i) = true) (hj : (lo[j]?).bind (·.dst) = some dj) (hn : Nat.blt dj n = true) (hb : e dj = .bool b) (hbc : b ≠ c) (hS : S w)
    (h : wpAnyH P .any lo.toArray Q S fuel (ls.setIfInBounds i true) (mkA n (upd e dd undef) ds) w)
    (hQ : ∀ c a w, Q (.panic c) (a.put (some dd) undef) w → Q (.panic c) a w := by exact fun _ _ _ h => h) :
    wpAnyH P .any lo.toArray Q S (fuel + 1) ls (mkA n e ds) w := by
  simp only [Bool.and_eq_true] at hc
  exact A_takeNo i hi hc.1.1 hc.1.2 hc.2 rfl hQ hj hn hb hbc hS h
/-! ### Deferred calls of functions that do nothing -/
end
end Go.Proofs.Ytlnihndjepjagaa.Gw
set_option linter.unusedVariables false
set_option linter.unusedSimpArgs false
set_option linter.unusedSectionVars false
namespace Go.Proofs.Ytlnihndjepjagaa.Gw
open Go Go.RowKit
section
variable {P : Program} {n : Nat} {e : Env} {w : World}
end
end Go.Proofs.Ytlnihndjepjagaa.Gw
set_option linter.unusedVariables false
set_option linter.unusedSimpArgs false
set_option linter.unusedSectionVars false
namespace Go.Proofs.Ytlnihndjepjagaa.Gw
open Go Go.RowKit
section
variable {P : Program} {n : Nat} {e : Env} {w : World} {K : Value → World → Prop} {Q : Exit → Act → World → Prop} {d : Option Nat} {ty : TypeId} {pos : String} {af : Array Edge} {g : Option (Nat × Bool)} {l : List SP} {ds : List Deferred}
def clf (b : Nat) (T : TypeId) (cs : List Value) : SP := fun h => h b = some (.cells cs.toArray T (0, 0))
end
end Go.Proofs.Ytlnihndjepjagaa.Gw
set_option linter.unusedVariables false
set_option linter.unusedSimpArgs false
set_option linter.unusedSectionVars false
namespace Go.Proofs.Ytlnihndjepjagaa.Gw
open Go Go.RowKit
section
variable {P : Program} {n : Nat} {e : Env} {w : World} {K : Value → World → Prop} {Q : Exit → Act → World → Prop} {d : Option Nat} {ty : TypeId} {pos : String} {af : Array Edge} {g : Option (Nat × Bool)} {l : List SP} {ds : List Deferred}
def TriG (P : Program) (f : FuncId) (args : Array Value) (R : HP) (pre : List SP) (Q : HP → Value → List SP → Prop) : Prop :=
  ∀ (w : World) (F : List SP), Holds w (ro R :: (pre ++ F)) →
    Calls P f args w fun e w' => ∃ R' v post, e = .returned v ∧ Sub R R' ∧ Q R' v post ∧ Same w w' ∧ Holds w' (ro R' :: (post ++ F))
theorem TriG.into {f : FuncId} {fn : Func} {c : Code} {args : Array Value} {al : List Value} {R : HP} {pre : List SP} {Qc : HP → Value → List SP → Prop} (hf : P.funcs[f]? = some fn) (hb : fn.body = some c) (hn : fn.ntmps = n)
    (ha : args = al.toArray) (hl : Nat.ble al.length n = true)
    (h : ∀ w F, Holds w (ro R :: (pre ++ F)) → c.wp P (bodyPost P fn fun r w' => ∃ R' v post, r = .returned v ∧ Sub R R' ∧ Qc R' v post ∧ Same w w' ∧ Holds w' (ro R' :: (post ++ F))) (mkA n (fun t => al.getD t undef) []) w) :
    TriG P f args R pre Qc := fun w F hh => Calls.into hf hb hn ha hl (h w F hh)
theorem T_callG {f : FuncId} {x : Operand} {lo : List Operand} {cl al : List Value} {at_ : Array TypeId} {R : HP} {pre F : List SP} {Qc : HP → Value → List SP → Prop}
    (hx : ev n e x = .func (.func f) #[] cl.toArray) (ha : lo.map (ev n e) ++ cl = al) (hc : callable P f = true) (ht : TriG P f al.toArray R pre Qc) (h : Holds w (ro R :: (pre ++ F)))
    (k : ∀ R' v post w', Sub R R' → Qc R' v post → Same w w' → Holds w' (ro R' :: (post ++ F)) → K v w') : Stp P n e ⟨d, .call { callee := .value x, args := lo.toArray, argTypes := at_ }, ty, pos, af, g⟩ w K :=
  T_callW hx ha hc ((ht w F h).mono fun r w' ⟨R', v, post, er, hs, q, s, hh⟩ => ⟨v, er, k R' v post w' hs q s hh⟩)
end
end Go.Proofs.Ytlnihndjepjagaa.Gw
set_option linter.unusedVariables false
set_option linter.unusedSimpArgs false
set_option linter.unusedSectionVars false
namespace Go.Proofs.Ytlnihndjepjagaa.Gw
open Go Go.RowKit
section
variable {P : Program} {n : Nat} {e : Env} {w : World}
end
end Go.Proofs.Ytlnihndjepjagaa.Gw
set_option linter.unusedVariables false
set_option linter.unusedSimpArgs false
set_option linter.unusedSectionVars false
namespace Go.Proofs.Ytlnihndjepjagaa.Gw
open Go Go.RowKit
section
variable {α : Type} [DecidableEq α] {m : List (α × Value)}
end
section
variable {P : Program} {n : Nat} {e : Env} {w : World} {K : Value → World → Prop} {d : Option Nat} {ty : TypeId} {pos : String} {af : Array Edge} {g : Option (Nat × Bool)} {l : List SP}
theorem T_storeSlN {t T bb sz m k s : Nat} {z : Option Value} {x y : Operand} {off : Nat} {b : Nat} {v : Value} {vs xs : List Value} (hx : ev n e x = .pointer (some ⟨b, off, none⟩)) (hy : ev n e y = .agg vs.toArray) (hz : tin P t = some (s, bb, z))
    (hs : vs.length = s) (hv : ∀ u ∈ vs, u.oneCell' = true) (h : Holds w l) (i : Nat) (hi : l[i]? = some (sl T sz v m xs)) (hk : k + vs.length ≤ xs.length) (hs0 : 0 < vs.length) (hb : b = sb v) (ho : off = so v + k)
    (c : ∀ w', Same w w' → Holds w' (l.set i (sl T sz v m (xs.take k ++ vs ++ xs.drop (k + vs.length)))) → K undef w') :
    Stp P n e ⟨d, .store t x y, ty, pos, af, g⟩ w K := by
  subst hb; subst ho
  have hlen : xs.length = m * sz := (h.sl_RSw i hi).1
  have hm : 0 < m := by
    rcases Nat.eq_zero_or_pos m with h0 | h0
    · rw [h0, Nat.zero_mul] at hlen; omega
    · exact h0
  obtain ⟨b', pr, sp, cap, hve, e2, e3, e4, hh⟩ := h.sl_open i hi hm
  have es : sb v = b' := by rw [hve]; rfl
  have eo : so v = pr.length := by rw [hve]; rfl
  have hil : i < l.length := (List.getElem?_eq_some_iff.1 hi).1
  rw [es, eo] at hx
  refine T_storeN hx hy hz hs hv hh i (T := T) (cs := pr ++ xs ++ sp) (by simp [hil]) (by simp; omega) fun w' s' h' => c w' s' ?_
  have hset : List.take (pr.length + k) (pr ++ xs ++ sp) ++ vs ++ List.drop (pr.length + k + vs.length) (pr ++ xs ++ sp) = pr ++ (xs.take k ++ vs ++ xs.drop (k + vs.length)) ++ sp := by
    have h1 : List.take (pr.length + k) (pr ++ xs ++ sp) = pr ++ xs.take k := by
      rw [List.append_assoc, List.take_append, List.take_of_length_le (by omega), show pr.length + k - pr.length = k by omega, List.take_append_of_le_length (by omega)]
    have h2 : List.drop (pr.length + k + vs.length) (pr ++ xs ++ sp) = xs.drop (k + vs.length) ++ sp := by
      rw [List.append_assoc, List.drop_append, List.drop_eq_nil_of_le (by omega), show pr.length + k + vs.length - pr.length = k + vs.length by omega, List.nil_append, List.drop_append_of_le_length (by omega)]
    rw [h1, h2]; simp [List.append_assoc]
  rw [hset, List.set_set] at h'
  have := Holds.map_at (B := sl T sz v m (xs.take k ++ vs ++ xs.drop (k + vs.length))) h' i (by simp [hil]) fun h'' a =>
    .inr ⟨b', pr, sp, cap, hve, by simp only [List.length_append, List.length_take, List.length_drop]; omega, e3, e4, a⟩
  rwa [List.set_set] at this
end
end Go.Proofs.Ytlnihndjepjagaa.Gw
set_option linter.unusedVariables false
set_option linter.unusedSimpArgs false
namespace Go.Proofs.Ytlnihndjepjagaa.Gw
open Go Go.RowKit
section
variable {P : Program} {n : Nat} {e : Env} {w : World} {l : List SP} {K : Value → World → Prop} {d : Option Nat} {ty : TypeId} {pos : String} {af : Array Edge} {g : Option (Nat × Bool)}
theorem Holds.mark {w : World} {l : List SP} (h : Holds w l) (i : Nat) {b T : Nat} {cs : List Value} (hi : l[i]? = some (clf b T cs)) :
    w.shape? b = some (T, cs.length) ∧ Holds (w.freeze ⟨b, cs.length, none⟩ 1) (l.set i (cl b T cs)) := by
  have he : w.heap[b]? = some (.cells cs.toArray T (0, 0)) := by
    obtain ⟨h1, k, s, t, d, e, r⟩ := Sat.bring i hi h
    exact s _ _ e
  refine ⟨by simp [World.shape?, he], ?_⟩
  have hw : hp (w.freeze ⟨b, cs.length, none⟩ 1) = upb (hp w) b (.cells cs.toArray T (cs.length, cs.length + 1)) := by
    refine hp_setBlock _ _ _ _ ?_ (fun c hc => ?_)
    · unfold World.freeze
      rw [if_neg (by decide)]
      simp only [Array.getElem?_modify, if_true, he, Option.map_some]
      rfl
    · unfold World.freeze
      rw [if_neg (by decide)]
      simp only [Array.getElem?_modify, if_neg (Ne.symm hc)]
  unfold Holds
  rw [hw]
  refine Sat.upb_at i hi h (fun h e' => ⟨_, e'⟩) fun h _ => ⟨(cs.length, cs.length + 1), by simp [upb], ?_⟩
  intro j hj ⟨h1, _⟩
  exact absurd h1 (Nat.not_le.2 hj)
theorem Holds.resl (h : Holds w l) (i : Nat) {T sz m m' : Nat} {v : Value} {xs xs' : List Value} (hi : l[i]? = some (sl T sz v m xs)) (hx : xs = xs') (hm : m = m') : Holds w (l.set i (sl T sz v m' xs')) := by
  subst hx; subst hm
  exact h.map_at i hi fun _ a => a
theorem Holds.recl (h : Holds w l) (i : Nat) {b T : Nat} {cs cs' : List Value} (hi : l[i]? = some (cl b T cs)) (hc : cs = cs') : Holds w (l.set i (cl b T cs')) := by
  subst hc
  exact h.map_at i hi fun _ a => a
def pk (n : Nat) : List SP → List Nat → List SP
  | l, [] => l.drop n
  | l, i :: r => match l[i]? with
    | some A => A :: pk n (l.eraseIdx i) r
    | none => []
theorem Sat.drop_ : ∀ (n : Nat) {l : List SP} {g : HP}, Sat l g → Sat (l.drop n) g
  | 0, _, _, h => h
  | _ + 1, [], _, h => h
  | n + 1, _ :: _, _, h => Sat.drop_ n (Sat.tail h)
theorem Sat.pk_ (n : Nat) : ∀ (idx : List Nat) {l : List SP} {g : HP}, Sat l g → Sat (pk n l idx) g
  | [], _, _, h => Sat.drop_ n h
  | i :: r, l, g, h => by
    unfold pk
    split
    · rename_i A e
      exact Sat.cons_map (fun g h => Sat.pk_ n r h) (Sat.bring i e h)
    · trivial
theorem Holds.pkF (h : Holds w l) (idx : List Nat) (n : Nat) : Holds w (pk n l idx) := Sat.pk_ n idx h
theorem Holds.drew_ (h : Holds w l) : Holds w.drew l := h
theorem A_cut {P : Program} {ops : Array Oper} {Q : Exit → Act → World → Prop} {S : World → Prop} {fuel : Nat} {ls : Array Bool} {a0 : Act} {w0 : World} (ls' : Array Bool) (fuel' : Nat) (J : Act → World → Prop) (h1 : ∀ a w, J a w → wpAnyH P .any ops Q S fuel' ls' a w)
    (h2 : (∀ a w, J a w → wpAnyH P .any ops Q S fuel' ls' a w) → wpAnyH P .any ops Q S fuel ls a0 w0) : wpAnyH P .any ops Q S fuel ls a0 w0 := h2 h1
end
end Go.Proofs.Ytlnihndjepjagaa.Gw
set_option linter.unusedVariables false
set_option linter.unusedSimpArgs false
set_option linter.unusedSectionVars false
namespace Go.Proofs.Ytlnihndjepjagaa.Gw
open Go Go.RowKit
section
variable {α : Type} [DecidableEq α]
def rg (K : α → Value) (b r : Nat) (m left : List (α × Value)) (cur : Option (α × Value)) : SP := fun h => ∃ (es : Array MapEntry) (clock since : Nat) (seen : Array Nat),
  h b = some (.map es clock) ∧ h r = some (.mapIter (some b) since seen clock) ∧ es.toList.map (fun e => (e.key, e.val)) = m.map (fun p => (K p.1, p.2)) ∧ Born es.toList clock ∧
  (∀ x ∈ es.toList, x.born < since) ∧ since ≤ clock ∧ (es.toList.filter (fun e => !seen.contains e.born)).map (fun e => (e.key, e.val)) = left.map (fun p => (K p.1, p.2)) ∧
  (∀ p, cur = some p → ∃ e ∈ es.toList, ∃ s' : Array Nat, seen = s'.push e.born ∧ e.key = K p.1 ∧ e.val = p.2)
variable {P : Program} {w : World} {l : List SP} {n : Nat} {e : Env} {K' : Value → World → Prop} {d : Option Nat} {ty : TypeId} {pos : String} {af : Array Edge} {g : Option (Nat × Bool)}
theorem filter_ne {L : List MapEntry} (hp : L.Pairwise fun a b => a.born ≠ b.born) {A B : List MapEntry} {e : MapEntry} (h : L = A ++ e :: B) : L.filter (fun x => !(x.born == e.born)) = A ++ B := by
  subst h
  rw [List.pairwise_append, List.pairwise_cons] at hp
  obtain ⟨_, ⟨h2, _⟩, h3⟩ := hp
  have hA : A.filter (fun x => !(x.born == e.born)) = A := List.filter_eq_self.2 fun x hx => by simpa using h3 x hx e (by simp)
  have hB : B.filter (fun x => !(x.born == e.born)) = B := List.filter_eq_self.2 fun x hx => by simpa using (h2 x hx).symm
  rw [List.filter_append, List.filter_cons, hA, hB]
  simp
theorem contains_push' (s : Array Nat) (a x : Nat) : (s.push a).contains x = (s.contains x || x == a) := by
  rw [Bool.eq_iff_iff]
  simp [Array.mem_push]
theorem map_split {β γ δ : Type} {f : β → δ} {k : γ → δ} : ∀ {A : List β} {x : β} {B : List β} {l : List γ}, (A ++ x :: B).map f = l.map k → ∃ l1 y l2, l = l1 ++ y :: l2 ∧ A.map f = l1.map k ∧ f x = k y ∧ B.map f = l2.map k
  | [], x, B, l, h => by
    cases l with
    | nil => simp at h
    | cons y l => simp only [List.nil_append, List.map_cons, List.cons.injEq] at h; exact ⟨[], y, l, rfl, rfl, h.1, h.2⟩
  | a :: A, x, B, l, h => by
    cases l with
    | nil => simp at h
    | cons y l =>
      simp only [List.cons_append, List.map_cons, List.cons.injEq] at h
      obtain ⟨l1, z, l2, e1, e2, e3, e4⟩ := map_split h.2
      exact ⟨y :: l1, z, l2, by rw [e1]; rfl, by simp [h.1, e2], e3, e4⟩
theorem T_range {K : α → Value} {t k el : TypeId} {x : Operand} {b : Nat} {m : List (α × Value)} (hx : ev n e x = .map (some b)) (ht : P.underlying t = some (.map k el)) (h : Holds w l) (i : Nat) (hi : l[i]? = some (mp K b m))
    (c : ∀ r w', Same w w' → Holds w' (l.set i (rg K b r m m none)) → K' (.pointer (some ⟨r, 0, none⟩)) w') : Stp P n e ⟨d, .range t x, ty, pos, af, g⟩ w K' := by
  obtain ⟨es, clock, hb, he, hbo⟩ := h.mp_block i hi
  refine .inl ⟨_, _, ?_, c w.heap.size _ (Same.alloc w (.mapIter (some b) clock #[] clock)) ?_⟩
  · simp only [execOp, hx]
    simp [run_range_map w t k el b es clock ht hb]
  · have h1 := h.allocOb (.mapIter (some b) clock #[] clock)
    have h2 : Holds (w.alloc (.mapIter (some b) clock #[] clock)) (mp K b m :: ob w.heap.size (.mapIter (some b) clock #[] clock) :: l.eraseIdx i) := h1.bring (i + 1) hi
    obtain ⟨g1, g2, s1, s2, d1, ⟨es1, clock1, a1, a2, a3⟩, g3, g4, s3, s4, d3, a4, rest⟩ := h2
    have e1 : (w.alloc (.mapIter (some b) clock #[] clock)).heap[b]? = some (.map es1 clock1) := s1 _ _ a1
    have hlt : b < w.heap.size := by
      rcases Nat.lt_or_ge b w.heap.size with x | x
      · exact x
      · rw [Array.getElem?_eq_none x] at hb; cases hb
    have e0 : (w.alloc (.mapIter (some b) clock #[] clock)).heap[b]? = w.heap[b]? := by
      show (w.heap.push _)[b]? = _
      rw [Array.getElem?_push, if_neg (by omega)]
    rw [e0, hb] at e1
    cases e1
    have hil : i < l.length := (List.getElem?_eq_some_iff.1 hi).1
    refine Sat.back i (A := rg K b w.heap.size m m none) (by simp [hil]) ?_
    rw [List.eraseIdx_set_eq]
    refine ⟨un g1 g3, g4, Sub.un_lub s1 (s3.trans' s2), s4.trans' s2, Dis.un_left (d1.sub_right s4) d3, ?_, rest⟩
    exact ⟨es, clock, clock, #[], Sub.un_left _ _ _ _ a1, Sub.un_right (d1.sub_right s3) _ _ a4, a2, a3, a3.1, Nat.le_refl _, by rw [← a2]; congr 1; exact List.filter_eq_self.2 fun _ _ => by simp, fun p hp => by cases hp⟩
theorem T_next {K : α → Value} {x : Operand} {b r : Nat} {m left : List (α × Value)} {cur : Option (α × Value)} (hx : ev n e x = .pointer (some ⟨r, 0, none⟩)) (h : Holds w l) (i : Nat) (hi : l[i]? = some (rg K b r m left cur))
    (c0 : left = [] → K' (.tuple #[.bool false]) w)
    (c1 : ∀ p l1 l2, left = l1 ++ p :: l2 → ∀ w', Same w w' → Holds w' (l.set i (rg K b r m (l1 ++ l2) (some p))) → K' (.tuple #[.bool true, K p.1, p.2]) w') : Stp P n e ⟨d, .next x false, ty, pos, af, g⟩ w K' := by
  obtain ⟨h', s, es, clock, since, seen, hb, hr, hm, hbo, hold, hsc, hl, hc⟩ := Sat.at i hi h
  have hne : b ≠ r := by rintro rfl; rw [hb] at hr; cases hr
  rcases run_next_at (P := P) w ty r b since clock seen es clock (s _ _ hr) (s _ _ hb) hold hsc with ⟨h0, hrun⟩ | ⟨q, hq, w1, hal, hrun⟩
  · refine .inl ⟨_, _, ?_, c0 ?_⟩
    · simp only [execOp, hx]; simp [hrun]
    · have h1 : leftOf es seen = #[] := Array.eq_empty_of_size_eq_zero h0
      have h2 : es.toList.filter (fun e => !seen.contains e.born) = [] := by
        have := congrArg Array.toList h1
        simpa [leftOf] using this
      rw [h2] at hl
      cases left with
      | nil => rfl
      | cons _ _ => simp at hl
  · have hq' : q ∈ es.toList.filter (fun e => !seen.contains e.born) := by simpa [leftOf] using hq
    obtain ⟨A, B, hAB⟩ := List.append_of_mem hq'
    rw [hAB] at hl
    obtain ⟨l1, p, l2, e1, e2, e3, e4⟩ := map_split hl
    obtain ⟨ek, evl⟩ := Prod.mk.inj e3
    have hw1 : Holds w1 l := by rcases hal with rfl | rfl <;> exact h
    have hs1 : Same w w1 := by
      rcases hal with rfl | rfl
      · exact Same.refl _
      · exact Same.drew _
    have hr1 : w1.heap[r]? = some (.mapIter (some b) since seen clock) := by
      have := s _ _ hr
      rcases hal with rfl | rfl <;> exact this
    refine .inl ⟨_, _, ?_, c1 p l1 l2 e1 (ChangeMaps.setBlock w1 r (.mapIter (some b) since (seen.push q.born) clock)) (hs1.trans ⟨rfl, rfl, rfl⟩) ?_⟩
    · simp only [execOp, hx]; simp [hrun, ek, evl]
    · have hrs : r < w1.heap.size := by
        rcases Nat.lt_or_ge r w1.heap.size with x | x
        · exact x
        · rw [Array.getElem?_eq_none x] at hr1; cases hr1
      have hu : hp (ChangeMaps.setBlock w1 r (.mapIter (some b) since (seen.push q.born) clock)) = upb (hp w1) r (.mapIter (some b) since (seen.push q.born) clock) := by
        refine hp_setBlock _ _ _ _ (by simp [ChangeMaps.setBlock, hrs]) (fun c hc => by simp [ChangeMaps.setBlock, Ne.symm hc])
      unfold Holds
      rw [hu]
      refine Sat.set i hi hw1 fun h k s t d a => ?_
      obtain ⟨es1, clock1, since1, seen1, hb1, hr2, _, _, _, _, _, _⟩ := a
      have q1 : some (Obj.map es clock) = some (.map es1 clock1) := by
        have x1 : w1.heap[b]? = some (.map es1 clock1) := s _ _ hb1
        have x2 : w1.heap[b]? = some (.map es clock) := by
          have := ‹Sub h' (hp w)› _ _ hb
          rcases hal with rfl | rfl <;> exact this
        rw [← x1, ← x2]
      cases q1
      refine ⟨upb h r (.mapIter (some b) since (seen.push q.born) clock), ?_, ?_, ?_, ⟨es, clock, since, seen.push q.born, ?_, by simp [upb], hm, hbo, hold, hsc, ?_, fun p' hp' => ?_⟩⟩
      · intro c x hcx
        unfold upb at hcx ⊢
        split
        · rename_i hc; rw [if_pos hc] at hcx; exact hcx
        · rename_i hc; rw [if_neg hc] at hcx; exact s c x hcx
      · intro c x hcx
        unfold upb
        split
        · rename_i hc
          subst hc
          rcases d c with z | z
          · rw [z] at hr2; cases hr2
          · rw [z] at hcx; cases hcx
        · exact t c x hcx
      · intro c
        unfold upb
        split
        · rename_i hc
          subst hc
          rcases d c with z | z
          · rw [z] at hr2; cases hr2
          · exact .inr z
        · exact d c
      · show upb h r _ b = _
        unfold upb; rw [if_neg hne]; exact hb1
      · have hf : es.toList.filter (fun e => !(seen.push q.born).contains e.born) = A ++ B := by
          rw [← filter_ne (L := es.toList.filter (fun e => !seen.contains e.born)) (hbo.2.sublist List.filter_sublist) hAB, List.filter_filter]
          refine List.filter_congr fun x _ => ?_
          rw [contains_push']
          cases seen.contains x.born <;> cases x.born == q.born <;> rfl
        rw [hf, List.map_append, e2, e4, List.map_append]
      · cases hp'
        exact ⟨q, (List.mem_filter.1 hq').1, seen, rfl, ek, evl⟩
theorem T_entry {K : α → Value} {x : Operand} {b r : Nat} {m left : List (α × Value)} {p : α × Value} (hx : ev n e x = .pointer (some ⟨r, 0, none⟩)) (h : Holds w l) (i : Nat) (hi : l[i]? = some (rg K b r m left (some p)))
    (c : K' (.tuple #[K p.1, p.2]) w) : Stp P n e ⟨d, .entry x, ty, pos, af, g⟩ w K' := by
  obtain ⟨h', s, es, clock, since, seen, hb, hr, hm, hbo, hold, hsc, hl, hc⟩ := Sat.at i hi h
  obtain ⟨q, hq, s', rfl, ek, evl⟩ := hc p rfl
  have hn : (es.toList.map (·.born)).Nodup := List.pairwise_map.2 hbo.2
  refine .inl ⟨_, _, ?_, c⟩
  simp only [execOp, hx]
  simp [run_entry_at w r b since s' es clock q (s _ _ hr) (s _ _ hb) hq hn, ek, evl]
/-! ### The end of a slice -/
end
end Go.Proofs.Ytlnihndjepjagaa.Gw
set_option linter.unusedVariables false
set_option linter.unusedSimpArgs false
namespace Go.Proofs.Ytlnihndjepjagaa.Gw
open Go Go.RowKit Go.ChangeShapes Go.WideShapes Go.ChangeAt
section
variable {H : Type} {enc : TypeId × Value → H} {P : Program} {w : World} {base : Nat} {spare : Nat → Bool} {held : Bool} {t : TypeId} {fuel n : Nat} {cs : List Value} {c : Value}
def ReadsB (enc : TypeId × Value → H) (P : Program) (w : World) (base : Nat) (spare : Nat → Bool) (held : Bool) (fuel : Nat) (t : TypeId) (cs : List Value) : Prop := ∃ y, DataW.trod enc P w base spare held fuel t cs = some y ∧ ∀ m ∈ y.1.weights P t, m ≤ reachBytes
theorem ReadsB.F (h : ReadsB enc P w base spare held fuel t cs) : ReadsF enc P w base spare held fuel t cs := by obtain ⟨y, h, _⟩ := h; exact ⟨y, h⟩
theorem ReadsB.reads (h : ReadsB enc P w base spare held fuel t cs) : Reads enc P w base spare held t cs := h.F.reads
theorem ReadsB.zero (h : ReadsB enc P w base spare held 0 t cs) : False := h.F.zero
theorem mapM_at {α β : Type} {f : α → Option β} : ∀ {l : List α} {r : List β}, l.mapM f = some r → ∀ (i : Nat) (x : α), l[i]? = some x → ∃ y, r[i]? = some y ∧ f x = some y
  | [], _, _, i, x, hx => by simp at hx
  | a :: l, r, h, i, x, hx => by
    rw [List.mapM_cons] at h
    cases ha : f a with
    | none => rw [ha] at h; cases h
    | some b =>
      rw [ha] at h
      cases hl : l.mapM f with
      | none => rw [hl] at h; cases h
      | some bs =>
        rw [hl] at h
        cases h
        cases i with
        | zero => simp at hx; subst hx; exact ⟨b, rfl, ha⟩
        | succ i =>
          obtain ⟨y, h1, h2⟩ := mapM_at hl i x (by simpa using hx)
          exact ⟨y, by simpa using h1, h2⟩
theorem mapM_len {α β : Type} {f : α → Option β} : ∀ {l : List α} {r : List β}, l.mapM f = some r → r.length = l.length
  | [], r, h => by rw [List.mapM_nil] at h; cases h; rfl
  | a :: l, r, h => by
    rw [List.mapM_cons] at h
    cases ha : f a with
    | none => rw [ha] at h; cases h
    | some b =>
      rw [ha] at h
      cases hl : l.mapM f with
      | none => rw [hl] at h; cases h
      | some bs =>
        rw [hl] at h
        cases h
        simp [mapM_len hl]
theorem weightsEach_at : ∀ {ts : List TypeId} {ds : List (DataW H)} {i : Nat} {t : TypeId} {d : DataW H}, ts[i]? = some t → ds[i]? = some d → ∀ m ∈ d.weights P t, m ∈ DataW.weightsEach P ts ds
  | [], _, i, t, d, h, _, m, _ => by simp at h
  | _ :: _, [], i, t, d, _, h, m, _ => by simp at h
  | t0 :: ts, d0 :: ds, 0, t, d, h1, h2, m, hm => by
    simp at h1 h2; subst h1; subst h2
    unfold DataW.weightsEach
    exact List.mem_append_left _ hm
  | t0 :: ts, d0 :: ds, i + 1, t, d, h1, h2, m, hm => by
    unfold DataW.weightsEach
    exact List.mem_append_right _ (weightsEach_at (by simpa using h1) (by simpa using h2) m hm)
theorem weightsAll_at : ∀ {ds : List (DataW H)} {i : Nat} {e : TypeId} {d : DataW H}, ds[i]? = some d → ∀ m ∈ d.weights P e, m ∈ DataW.weightsAll P e ds
  | [], i, e, d, h, m, _ => by simp at h
  | d0 :: ds, 0, e, d, h, m, hm => by
    simp at h; subst h
    unfold DataW.weightsAll
    exact List.mem_append_left _ hm
  | d0 :: ds, i + 1, e, d, h, m, hm => by
    unfold DataW.weightsAll
    exact List.mem_append_right _ (weightsAll_at (by simpa using h) m hm)
theorem inv_structB {fs : Array Field} (hu : P.underlying t = some (.struct fs)) (h : ReadsB enc P w base spare held (fuel + 1) t cs) :
    cs.length = P.cellsOf t ∧ ∀ (i : Nat) (f : Field), fs[i]? = some f → ReadsB enc P w base spare held fuel f.type ((cs.drop f.offset).take (P.cellsOf f.type)) := by
  obtain ⟨y, h, hw⟩ := h
  unfold DataW.trod at h
  rw [hu] at h
  dsimp only at h
  split at h
  · rename_i hl
    refine ⟨hl, fun i f hi => ?_⟩
    cases hm : (fs.toList.mapM fun f => DataW.trod enc P w base spare held fuel f.type ((cs.drop f.offset).take (P.cellsOf f.type))) with
    | none => rw [hm] at h; cases h
    | some r =>
      rw [hm] at h
      cases h
      obtain ⟨z, hz1, hz2⟩ := mapM_at hm i f (by simpa using hi)
      refine ⟨z, hz2, fun m hmm => hw m ?_⟩
      unfold DataW.weights
      rw [hu]
      exact weightsEach_at (i := i) (by simp [hi]) (by simp [hz1]) m hmm
  · cases h
theorem fld1B {fs : Array Field} (hf : ∀ (i : Nat) (f : Field), fs[i]? = some f → ReadsB enc P w base spare held fuel f.type ((cs.drop f.offset).take (P.cellsOf f.type))) (i : Nat) {f : Field} (hi : fs[i]? = some f)
    (hC : P.cellsOf f.type = 1) (hc : cs[f.offset]? = some c) : ReadsB enc P w base spare held fuel f.type [c] := by
  have := hf i f hi
  rw [hC] at this
  have e : (cs.drop f.offset).take 1 = [c] := by
    rw [List.take_one, List.head?_drop, hc]
    rfl
  rwa [e] at this
theorem inv_sliceB {e : TypeId} (hu : P.underlying t = some (.slice e)) (h : ReadsB enc P w base spare held (fuel + 1) t [c]) :
    c = .slice none 0 0 ∨ ∃ a len cap, c = .slice (some a) len cap ∧ len ≤ cap ∧ cap ≤ maxLen ∧ len * P.bytesOf e ≤ reachBytes ∧ ∀ i, i < len → ∃ xs, w.cells? base (a.add (i * P.cellsOf e)) (P.cellsOf e) = some xs ∧ ReadsB enc P w base spare held fuel e xs := by
  obtain ⟨y, h, hw⟩ := h
  unfold DataW.trod at h
  rw [hu] at h
  split at h
  all_goals (first | (rename_i h1 h2; cases h1; done) | (rename_i h1; cases h1; done) | (cases h; done) | skip)
  · rename_i h1 h2
    simp only [List.cons.injEq, and_true] at h2
    exact .inl h2
  · rename_i e' a len cap h1 h2
    simp only [Option.some.injEq, TypeDesc.slice.injEq] at h1
    subst h1
    simp only [List.cons.injEq, and_true] at h2
    subst h2
    refine .inr ⟨a, len, cap, rfl, ?_⟩
    dsimp only at h
    split at h
    · rename_i hb
      rw [Option.bind_eq_some_iff] at h
      obtain ⟨elems, he, h⟩ := h
      rw [Option.map_eq_some_iff] at h
      obtain ⟨rest, hr, rfl⟩ := h
      have hlen : elems.length = len := by
        have := mapM_len he
        simpa using this
      have hww : ∀ m ∈ ((elems.map (·.1)).length + (rest.map (·.1)).length) * P.bytesOf e :: (DataW.weightsAll P e (elems.map (·.1)) ++ DataW.weightsAll P e (rest.map (·.1))), m ≤ reachBytes := fun m hm => hw m (by
        unfold DataW.weights
        rw [hu]; exact hm)
      refine ⟨hb.2.1, hb.2.2, ?_, fun i hi => ?_⟩
      · have := hww _ (List.mem_cons_self ..)
        rw [List.length_map, hlen] at this
        exact Nat.le_trans (Nat.mul_le_mul_right _ (Nat.le_add_right _ _)) this
      · obtain ⟨z, hz1, hz⟩ := mapM_at he i i (by simp [hi])
        rw [Option.bind_eq_some_iff] at hz
        obtain ⟨xs, h3, h4⟩ := hz
        refine ⟨xs, h3, z, h4, fun m hm => hww m (List.mem_cons_of_mem _ (List.mem_append_left _ ?_))⟩
        exact weightsAll_at (i := i) (by simp [hz1]) m hm
    · cases h
theorem open_listB {α : Type} (F : α → List Value) (PP : α → Prop) {e : TypeId} (hn : P.cellsOf e = n) (hpos : 0 < n) (hF : ∀ x, (F x).length = n) (hu : P.underlying t = some (.slice e))
    (hel : ∀ xs, ReadsB enc P w base spare held fuel e xs → ∃ x, xs = F x ∧ PP x) (h : ReadsB enc P w base spare held (fuel + 1) t [c]) :
    ∃ (a : Option Addr) (len cap : Nat) (l : List α), c = .slice a len cap ∧ RS (hp w) n c l.length (l.flatMap F) ∧ (∀ x ∈ l, PP x) ∧ l.length * P.bytesOf e ≤ reachBytes := by
  rcases inv_sliceB hu h with rfl | ⟨a, len, cap, rfl, h1, h2, hb, h3⟩
  · exact ⟨none, 0, 0, [], rfl, RS.nil _ _, fun x hx => (by cases hx), by simp⟩
  · subst hn
    have hx : ∀ i : Fin len, ∃ x, w.cells? base (a.add (i * P.cellsOf e)) (P.cellsOf e) = some (F x) ∧ PP x := fun i => by
      obtain ⟨xs, e1, e2⟩ := h3 i i.2
      obtain ⟨x, rfl, hp⟩ := hel xs e2
      exact ⟨x, e1, hp⟩
    have hl : ∃ l : List α, l.length = len ∧ ∀ i x, l[i]? = some x → w.cells? base (a.add (i * P.cellsOf e)) (P.cellsOf e) = some (F x) ∧ PP x := by
      refine ⟨List.ofFn fun i : Fin len => Classical.choose (hx i), List.length_ofFn, fun i x hi => ?_⟩
      rw [List.getElem?_ofFn] at hi
      split at hi
      · rename_i hlt
        cases hi
        exact Classical.choose_spec (hx ⟨i, hlt⟩)
      · cases hi
    obtain ⟨l, rfl, hl⟩ := hl
    refine ⟨some a, l.length, cap, l, rfl, ⟨fm_len hF l, some a, cap, rfl, h1, fun hm => ?_⟩, fun x hx => ?_, hb⟩
    · have key : ∀ k x, l[k]? = some x → ∀ i u, (F x)[i]? = some u → ∃ cs T fr, hp w a.block = some (.cells cs T fr) ∧ cs[a.off + (k * P.cellsOf e + i)]? = some u ∧ (k * P.cellsOf e + i = 0 → a.spot = none) := by
        intro k x hk i u hi
        have hc := (hl k x hk).1
        unfold World.cells? at hc
        split at hc
        · have hc := mapM_idx hc i u hi
          by_cases hi0 : i = 0
          · subst hi0
            have : (a.add (k * P.cellsOf e)).add 0 = a.add (k * P.cellsOf e + 0) := by simp [Addr.add]
            rw [this] at hc
            exact cell_block hc
          · have : (a.add (k * P.cellsOf e)).add i = a.add (k * P.cellsOf e + i) := by
              by_cases hk0 : k * P.cellsOf e = 0
              · rw [hk0]; simp [Addr.add]
              · simp [Addr.add, hi0, hk0, Nat.add_assoc]
            rw [this] at hc
            exact cell_block hc
        · cases hc
      obtain ⟨b, off, spot⟩ := a
      have h0 : spot = none := by
        obtain ⟨x, hx0, _⟩ := elem_at l 0 hm
        have hlen := hF x
        obtain ⟨cs, T, fr, _, _, e3⟩ := key 0 x hx0 0 _ (List.getElem?_eq_getElem (by omega))
        exact e3 (by simp)
      subst h0
      refine ⟨b, off, rfl, fun j u hj => ?_⟩
      have hjl : j < (l.flatMap F).length := (List.getElem?_eq_some_iff.1 hj).1
      rw [fm_len hF] at hjl
      have hk : j / P.cellsOf e < l.length := Nat.div_lt_of_lt_mul (by rwa [Nat.mul_comm] at hjl)
      obtain ⟨x, hkx, _⟩ := elem_at l _ hk
      have hi : j % P.cellsOf e < (F x).length := by rw [hF]; exact Nat.mod_lt _ hpos
      have hdm : j / P.cellsOf e * P.cellsOf e + j % P.cellsOf e = j := by rw [Nat.mul_comm]; exact Nat.div_add_mod _ _
      have e1 := fm_cell hF hkx (List.getElem?_eq_getElem hi)
      rw [hdm, hj] at e1
      obtain ⟨cs, T, fr, e2, e3, _⟩ := key _ x hkx _ _ (List.getElem?_eq_getElem hi)
      rw [hdm] at e3
      exact ⟨cs, T, fr, e2, by rw [e3, ← e1]⟩
    · obtain ⟨i, hi, rfl⟩ := List.getElem_of_mem hx
      exact (hl i _ (List.getElem?_eq_getElem hi)).2
theorem readsB_of_trod {v : Value} {d : DataW H} {ps : List MemPlace} {ts : List TypeId} {ds : List (DataW H)} {i : Nat} (h : DataW.Trod enc P w base spare held t v d ps) (ht : ts[i]? = some t) (hd : ds[i]? = some d) (hs : (DataW.weightsEach P ts ds).all (· ≤ reachBytes) = true) : ∃ fuel, ReadsB enc P w base spare held fuel t v.cells.toList := by
  obtain ⟨fuel, h⟩ := h
  exact ⟨fuel, _, h, fun m hm => of_decide_eq_true (List.all_eq_true.1 hs m (weightsEach_at ht hd m hm))⟩
end
end Go.Proofs.Ytlnihndjepjagaa.Gw
set_option linter.unusedVariables false
set_option linter.unusedSimpArgs false
namespace Go.Proofs.Ytlnihndjepjagaa
open Go Go.RowKit Gw Try
open Go.Value renaming int → vI, bool → vB, slice → vS, pointer → vP, agg → vA, tuple → vT
section
variable {P : Program} {n : Nat} {e : Env} {ds : List Deferred} {w : World} {Q : Exit → Act → World → Prop} {ops : Array Oper} {rest : List Oper} {ty : TypeId} {pos : String} {af : Array Edge}
theorem sm {dd : Nat} {x : Operand} (v : Value) (k : wpList P ops Q rest (mkA n (upd e dd v) ds) w) (h : ev n e x = v := by exact rfl) : wpList P ops Q (⟨some dd, .move x, ty, pos, af, none⟩ :: rest) (mkA n e ds) w := sv (x_move h) k
theorem cr {id : Nat} {lo : List Oper} {y : Code} (h : ∀ K : Act → World → Prop, (∀ a w, y.wp P Q a w → K a w) → wpList P lo.toArray (Exit.then K Q) lo (mkA n e ds) w) : (Code.seq (.region id lo.toArray false) y).wp P Q (mkA n e ds) w := C_seq fun K hK => C_reg (h K hK)
theorem wn {J : Act → World → Prop} {a : Act} (h : J a w) : wpList P ops (Exit.then J Q) [] a w := wpList_nil (X_then h)
end

structure RQ where
  kind : Int
  key : ByteArray
  end_ : ByteArray
  value : ByteArray
  lease : Int
  rev : Int
  limit : Int
  sortOrder : Int
  sortTarget : Int
  minMod : Int
  maxMod : Int
  minCreate : Int
  maxCreate : Int
  keysOnly : Bool
  countOnly : Bool
  prev : Bool
  ignoreValue : Bool
  ignoreLease : Bool
  cmps : Value
  then_ : Value
  else_ : Value
def RQ.cells (x : RQ) : List Value := [(vI .i64 x.kind), (Value.string x.key), (Value.string x.end_), (Value.string x.value), (vI .i64 x.lease), (vI .i64 x.rev), (vI .i64 x.limit), (vI .i64 x.sortOrder), (vI .i64 x.sortTarget), (vI .i64 x.minMod), (vI .i64 x.maxMod), (vI .i64 x.minCreate), (vI .i64 x.maxCreate), (vB x.keysOnly), (vB x.countOnly), (vB x.prev), (vB x.ignoreValue), (vB x.ignoreLease), x.cmps, x.then_, x.else_]
theorem RQ.len (x : RQ) : x.cells.length = 21 := rfl

structure CM where
  target : Int
  result : Int
  key : ByteArray
  end_ : ByteArray
  n : Int
  value : ByteArray
  bare : Bool
def CM.cells (x : CM) : List Value := [(vI .i64 x.target), (vI .i64 x.result), (Value.string x.key), (Value.string x.end_), (vI .i64 x.n), (Value.string x.value), (vB x.bare)]
theorem CM.len (x : CM) : x.cells.length = 7 := rfl

inductive RT where
  | mk (q : RQ) (cc : List CM) (tt ee : List RT)
def RT.q : RT → RQ | .mk q _ _ _ => q
def RT.cc : RT → List CM | .mk _ cc _ _ => cc
def RT.tt : RT → List RT | .mk _ _ tt _ => tt
def RT.ee : RT → List RT | .mk _ _ _ ee => ee
def RT.cells (x : RT) : List Value := x.q.cells
theorem RT.len (x : RT) : x.cells.length = 21 := rfl
noncomputable def RT.sz (x : RT) : Nat := SizeOf.sizeOf x
noncomputable def lsz (L : List RT) : Nat := SizeOf.sizeOf L
theorem RT.sz_tt (x : RT) : lsz x.tt < x.sz := by cases x; unfold lsz RT.sz; simp only [RT.tt, RT.mk.sizeOf_spec]; omega
theorem RT.sz_ee (x : RT) : lsz x.ee < x.sz := by cases x; unfold lsz RT.sz; simp only [RT.ee, RT.mk.sizeOf_spec]; omega
theorem RT.sz_mem {x : RT} {L : List RT} (h : x ∈ L) : x.sz < lsz L := List.sizeOf_lt_of_mem h
inductive RAt (R : HP) : RT → Prop
  | mk (x : RT) : RS R 7 x.q.cmps x.cc.length (x.cc.flatMap CM.cells) → RS R 21 x.q.then_ x.tt.length (x.tt.flatMap RT.cells) → RS R 21 x.q.else_ x.ee.length (x.ee.flatMap RT.cells) →
      (x.cc.length ≤ 1000000000000000 ∧ x.tt.length ≤ 1000000000000000 ∧ x.ee.length ≤ 1000000000000000) → (∀ y ∈ x.tt, RAt R y) → (∀ y ∈ x.ee, RAt R y) → RAt R x
theorem RAt.c {R : HP} {x : RT} (h : RAt R x) : RS R 7 x.q.cmps x.cc.length (x.cc.flatMap CM.cells) := by cases h; assumption
theorem RAt.t {R : HP} {x : RT} (h : RAt R x) : RS R 21 x.q.then_ x.tt.length (x.tt.flatMap RT.cells) := by cases h; assumption
theorem RAt.e {R : HP} {x : RT} (h : RAt R x) : RS R 21 x.q.else_ x.ee.length (x.ee.flatMap RT.cells) := by cases h; assumption
theorem RAt.b {R : HP} {x : RT} (h : RAt R x) : x.cc.length ≤ 1000000000000000 ∧ x.tt.length ≤ 1000000000000000 ∧ x.ee.length ≤ 1000000000000000 := by cases h; assumption
theorem RAt.tt {R : HP} {x : RT} (h : RAt R x) : ∀ y ∈ x.tt, RAt R y := by cases h; assumption
theorem RAt.ee {R : HP} {x : RT} (h : RAt R x) : ∀ y ∈ x.ee, RAt R y := by cases h; assumption
theorem RAt.mono {R R' : HP} (s : Sub R R') : ∀ {x : RT}, RAt R x → RAt R' x := by
  intro x h
  induction h with
  | mk x h1 h2 h3 h4 _ _ ih1 ih2 => exact .mk x (h1.mono s) (h2.mono s) (h3.mono s) h4 ih1 ih2
def RAts (R : HP) (L : List RT) : Prop := ∀ y ∈ L, RAt R y
theorem drop_at {α : Type} {l : List α} {k : Nat} {x : α} (h : l[k]? = some x) : l.drop k = x :: l.drop (k + 1) := by
  obtain ⟨h1, h2⟩ := List.getElem?_eq_some_iff.1 h
  rw [← h2, List.getElem_cons_drop]
theorem take_snoc {α : Type} {l : List α} {k : Nat} {x : α} (h : l[k]? = some x) : l.take (k + 1) = l.take k ++ [x] := by rw [List.take_add_one, h]; rfl
/-! ### What the guards reckon -/
mutual
def manyT : RT → Nat → Int → Int
  | .mk q cc tt ee, deep, n =>
    if q.kind < 1 ∨ 4 < q.kind ∨ (q.kind = 4 ∧ deep = 0) then -1
    else if q.kind ≠ 4 then n + 1
    else if manyL tt (deep - 1) 0 < 0 ∨ manyL ee (deep - 1) 0 < 0 ∨ 200 < n + 1 + (manyL tt (deep - 1) 0 + manyL ee (deep - 1) 0 + cc.length) then -1
    else n + 1 + (manyL tt (deep - 1) 0 + manyL ee (deep - 1) 0 + cc.length)
def manyL : List RT → Nat → Int → Int
  | [], _, n => n
  | x :: l, deep, n => if manyT x deep n < 0 then -1 else manyL l deep (manyT x deep n)
end
theorem manyT_def (x : RT) (deep : Nat) (n : Int) : manyT x deep n = if x.q.kind < 1 ∨ 4 < x.q.kind ∨ (x.q.kind = 4 ∧ deep = 0) then -1
    else if x.q.kind ≠ 4 then n + 1
    else if manyL x.tt (deep - 1) 0 < 0 ∨ manyL x.ee (deep - 1) 0 < 0 ∨ 200 < n + 1 + (manyL x.tt (deep - 1) 0 + manyL x.ee (deep - 1) 0 + x.cc.length) then -1
    else n + 1 + (manyL x.tt (deep - 1) 0 + manyL x.ee (deep - 1) 0 + x.cc.length) := by
  cases x; rw [manyT]; rfl
theorem many_bad {L : List RT} {k deep : Nat} {n : Int} {x : RT} (hx : L[k]? = some x) (h : manyT x deep n = -1) : manyL (L.drop k) deep n = -1 := by
  rw [drop_at hx, manyL, h]; rfl
theorem many_go {L : List RT} {k deep : Nat} {n m : Int} {x : RT} (hx : L[k]? = some x) (h : manyT x deep n = m) (h0 : 0 ≤ m) : manyL (L.drop k) deep n = manyL (L.drop (k + 1)) deep m := by
  rw [drop_at hx, manyL, h, if_neg (by omega)]
theorem many_end {L : List RT} {k deep : Nat} {n : Int} (h : L.length ≤ k) : manyL (L.drop k) deep n = n := by
  rw [List.drop_of_length_le h, manyL]
theorem manyL_bd : ∀ (L : List RT) (deep : Nat) (n : Int), 0 ≤ n → -1 ≤ manyL L deep n ∧ (manyL L deep n ≤ n + L.length ∨ manyL L deep n ≤ 200 + L.length)
  | [], deep, n, h => by rw [manyL]; omega
  | x :: l, deep, n, h => by
    rw [manyL]
    split
    · exact ⟨by omega, .inr (by omega)⟩
    · rename_i hx
      have hm : manyT x deep n = n + 1 ∨ (0 ≤ manyT x deep n ∧ manyT x deep n ≤ 200) := by
        rw [manyT_def] at hx ⊢
        split
        · rename_i h1; rw [if_pos h1] at hx; omega
        · rename_i h1
          rw [if_neg h1] at hx
          split
          · exact .inl rfl
          · rename_i h2
            rw [if_neg h2] at hx
            split
            · rename_i h3; rw [if_pos h3] at hx; omega
            · rename_i h3; rw [if_neg h3] at hx; exact .inr (by omega)
      have ih := manyL_bd l deep (manyT x deep n) (by omega)
      rw [List.length_cons]
      rcases hm with hm | hm
      · rw [hm] at ih ⊢; omega
      · omega
inductive Pln : RT → Prop
  | mk (x : RT) : (x.q.kind = 1 ∨ x.q.kind = 4) → (x.q.kind = 4 → x.cc.length ≤ 200 ∧ x.tt.length ≤ 200 ∧ x.ee.length ≤ 200) → (x.q.kind = 4 → ∀ y ∈ x.tt, Pln y) → (x.q.kind = 4 → ∀ y ∈ x.ee, Pln y) → Pln x
theorem Pln.k {x : RT} (h : Pln x) : x.q.kind = 1 ∨ x.q.kind = 4 := by cases h; assumption
theorem Pln.b {x : RT} (h : Pln x) (h4 : x.q.kind = 4) : x.cc.length ≤ 200 ∧ x.tt.length ≤ 200 ∧ x.ee.length ≤ 200 := by cases h with | mk _ _ a _ _ => exact a h4
theorem Pln.tt {x : RT} (h : Pln x) (h4 : x.q.kind = 4) : ∀ y ∈ x.tt, Pln y := by cases h with | mk _ _ _ a _ => exact a h4
theorem Pln.ee {x : RT} (h : Pln x) (h4 : x.q.kind = 4) : ∀ y ∈ x.ee, Pln y := by cases h with | mk _ _ _ _ a => exact a h4
theorem manyL_len : ∀ (L : List RT) (deep : Nat) (n : Int), 0 ≤ n → 0 ≤ manyL L deep n → n + L.length ≤ manyL L deep n ∧ ∀ x ∈ L, ∃ m, 0 ≤ m ∧ 0 ≤ manyT x deep m
  | [], deep, n, _, h => by rw [manyL] at h ⊢; exact ⟨by simp, fun x hx => by cases hx⟩
  | x :: l, deep, n, hn, h => by
    rw [manyL] at h ⊢
    split at h
    · omega
    · rename_i hx
      rw [if_neg hx]
      have ih := manyL_len l deep (manyT x deep n) (by omega) h
      have h1 : n + 1 ≤ manyT x deep n := by
        rw [manyT_def] at hx ⊢
        split
        · rename_i h1; rw [if_pos h1] at hx; omega
        · rename_i h1
          rw [if_neg h1] at hx
          split
          · omega
          · rename_i h2
            rw [if_neg h2] at hx
            split
            · rename_i h3; rw [if_pos h3] at hx; omega
            · rename_i h3; omega
      refine ⟨by rw [List.length_cons]; omega, fun y hy => ?_⟩
      rcases List.mem_cons.1 hy with rfl | hy
      · exact ⟨n, hn, by omega⟩
      · exact ih.2 y hy
end Go.Proofs.Ytlnihndjepjagaa
set_option linter.unusedVariables false
set_option linter.unusedSimpArgs false
namespace Go.Proofs.Ytlnihndjepjagaa
open Go Go.RowKit Gw Try
open Go.Value renaming int → vI, bool → vB, slice → vS, pointer → vP, agg → vA, tuple → vT

set_option maxHeartbeats 8000000 in
theorem ckManyL_step (R : HP) (v : Value) (L : List RT) (deep : Nat) (n__ : Nat) (hL : RS R 21 v (List.length L) (L.flatMap RT.cells)) (hR : RAts R L) (hl : L.length ≤ 1000000000000000) (hd : deep ≤ 10) (hn__ : (lsz L) ≤ n__) (ih : ∀ (R : HP) (v : Value) (L : List RT) (deep : Nat) (hL : RS R 21 v (List.length L) (L.flatMap RT.cells)) (hR : RAts R L) (hl : L.length ≤ 1000000000000000) (hd : deep ≤ 10) (hms : (lsz L) < n__), Tri Try.prog 38 #[v, (vI .i64 (deep : Int))] R [] (fun v__ post__ => v__ = (vI .i64 (manyL L deep 0)) ∧ post__ = [])) :
    Tri Try.prog 38 #[v, (vI .i64 (deep : Int))] R [] (fun v__ post__ => v__ = (vI .i64 (manyL L deep 0)) ∧ post__ = []) := by
 refine Tri.into (n := 69) (al := [v, (vI .i64 (deep : Int))]) func38 rfl ntmps38 rfl rfl fun w F H => ?_
 refine cr fun _ hK1_ => ?_
 refine sv (v := (vI .i64 0)) (x_assign rfl) ?_
 refine wn (hK1_ _ _ ?_)
 refine cr fun _ hK2_ => ?_
 refine sv (v := (vI .i64 0)) (x_assign rfl) ?_
 refine wn (hK2_ _ _ ?_)
 refine C_seq (fun _ hK3_ => ?_)
 refine cr fun _ hK4_ => ?_
 refine sv (v := v) (x_move rfl) ?_
 refine sv (v := (vI .i64 ((List.length L) : Int))) (x_lenRS rfl hL underlying23) ?_
 refine sm (vI .i64 0) ?_
 refine wn (hK4_ _ _ ?_)
 refine C_block ?_
 refine C_loop (γ := Nat × Int × Int) (fun x__ a__ w1__ => match x__ with | ⟨k, n, t4_v⟩ => ∃ h : Env, a__ = mkA 69 (upd (upd (upd (upd (upd (upd h 1 (vI .i64 (deep : Int))) 4 (vI .i64 t4_v)) 5 (vI .i64 n)) 10 v) 11 (vI .i64 ((List.length L) : Int))) 12 (vI .i64 (k : Int))) [] ∧ Holds w1__ (ro R :: F) ∧ Same w w1__ ∧ (k ≤ L.length) ∧ (0 ≤ n ∧ n ≤ 200 + k) ∧ (manyL L deep 0 = manyL (L.drop k) deep n)) (fun x__ => match x__ with | ⟨k, n, t4_v⟩ => L.length - k) (⟨0, 0, 0⟩) ⟨_, congrArg (fun e => mkA 69 e []) (ch (ch (ch (ch (ch (ch rfl rfl) rfl) rfl) rfl) rfl) (congrArg (vI .i64) ((by first | rfl | omega | (simp; done) | (simp; omega)) : 0 = (0 : Int)))), H, (Same.refl w), (by first | assumption | omega | exact rfl), (by first | assumption | omega | exact rfl), (by rw [List.drop_zero])⟩ ?_
 rintro ⟨k, n, t4_v⟩ _ w5_ ⟨h, rfl, H6_, S7_, hk, hn, hin⟩
 refine cr fun _ hK8_ => ?_
 refine sv (v := (vB (decide ((k : Int) < ((List.length L) : Int))))) (x_bin rfl rfl rfl) ?_
 refine wn (hK8_ _ _ ?_)
 refine C_seq (fun _ hK9_ => ?_)
 refine C_cond (b := decide ((k : Int) < ((List.length L) : Int))) rfl (fun c10_t => ?_) (fun c10_f => ?_)
 ·have c10_tp : (k : Int) < ((List.length L) : Int) := of_decide_eq_true c10_t
  refine C_skip (X_then (hK9_ _ _ ?_))
  refine C_seq (fun _ hK11_ => ?_)
  refine C_block ?_
  refine cr fun _ hK12_ => ?_
  obtain ⟨x13_, hx14_, hm15_⟩ := elem_at L k (by omega)
  have hra16_ := hR x13_ hm15_
  have := hra16_.b
  have := RT.sz_mem hm15_
  have := RT.sz_tt x13_
  have := RT.sz_ee x13_
  refine sv (v := (vP (some ⟨(sb v), so v + (k * 21 + 0), none⟩))) (x_idxRS (v := v) rfl hL rfl underlying23 z25 (by omega) (by omega) (by omega : _ = k) rfl) ?_
  refine sv (v := (vA #[(vI .i64 x13_.q.kind), (Value.string x13_.q.key), (Value.string x13_.q.end_), (Value.string x13_.q.value), (vI .i64 x13_.q.lease), (vI .i64 x13_.q.rev), (vI .i64 x13_.q.limit), (vI .i64 x13_.q.sortOrder), (vI .i64 x13_.q.sortTarget), (vI .i64 x13_.q.minMod), (vI .i64 x13_.q.maxMod), (vI .i64 x13_.q.minCreate), (vI .i64 x13_.q.maxCreate), (vB x13_.q.keysOnly), (vB x13_.q.countOnly), (vB x13_.q.prev), (vB x13_.q.ignoreValue), (vB x13_.q.ignoreLease), x13_.q.cmps, x13_.q.then_, x13_.q.else_])) (x_loadN (vs := [(vI .i64 x13_.q.kind), (Value.string x13_.q.key), (Value.string x13_.q.end_), (Value.string x13_.q.value), (vI .i64 x13_.q.lease), (vI .i64 x13_.q.rev), (vI .i64 x13_.q.limit), (vI .i64 x13_.q.sortOrder), (vI .i64 x13_.q.sortTarget), (vI .i64 x13_.q.minMod), (vI .i64 x13_.q.maxMod), (vI .i64 x13_.q.minCreate), (vI .i64 x13_.q.maxCreate), (vB x13_.q.keysOnly), (vB x13_.q.countOnly), (vB x13_.q.prev), (vB x13_.q.ignoreValue), (vB x13_.q.ignoreLease), x13_.q.cmps, x13_.q.then_, x13_.q.else_]) rfl underlying25 rfl z25 rfl (RC.cells (RS.rc hL) (Holds.ro_at H6_ 0 rfl) (k * 21 + 0) (fm_cells RT.len hx14_ (i := 0) rfl))) ?_
  refine S_list (T_alloc z25 H6_ ?_)
  intro b17_ w18_ S20_ H19_
  have S21_ := Same.trans S7_ S20_
  refine S_list0 (T_storeN (vs := [(vI .i64 x13_.q.kind), (Value.string x13_.q.key), (Value.string x13_.q.end_), (Value.string x13_.q.value), (vI .i64 x13_.q.lease), (vI .i64 x13_.q.rev), (vI .i64 x13_.q.limit), (vI .i64 x13_.q.sortOrder), (vI .i64 x13_.q.sortTarget), (vI .i64 x13_.q.minMod), (vI .i64 x13_.q.maxMod), (vI .i64 x13_.q.minCreate), (vI .i64 x13_.q.maxCreate), (vB x13_.q.keysOnly), (vB x13_.q.countOnly), (vB x13_.q.prev), (vB x13_.q.ignoreValue), (vB x13_.q.ignoreLease), x13_.q.cmps, x13_.q.then_, x13_.q.else_]) rfl rfl z25 rfl (List.forall_mem_cons.2 ⟨rfl, (List.forall_mem_cons.2 ⟨rfl, (List.forall_mem_cons.2 ⟨rfl, (List.forall_mem_cons.2 ⟨rfl, (List.forall_mem_cons.2 ⟨rfl, (List.forall_mem_cons.2 ⟨rfl, (List.forall_mem_cons.2 ⟨rfl, (List.forall_mem_cons.2 ⟨rfl, (List.forall_mem_cons.2 ⟨rfl, (List.forall_mem_cons.2 ⟨rfl, (List.forall_mem_cons.2 ⟨rfl, (List.forall_mem_cons.2 ⟨rfl, (List.forall_mem_cons.2 ⟨rfl, (List.forall_mem_cons.2 ⟨rfl, (List.forall_mem_cons.2 ⟨rfl, (List.forall_mem_cons.2 ⟨rfl, (List.forall_mem_cons.2 ⟨rfl, (List.forall_mem_cons.2 ⟨rfl, (List.forall_mem_cons.2 ⟨(RS.one (hra16_.c)), (List.forall_mem_cons.2 ⟨(RS.one (hra16_.t)), (List.forall_mem_cons.2 ⟨(RS.one (hra16_.e)), (fun _ h__ => by cases h__)⟩)⟩)⟩)⟩)⟩)⟩)⟩)⟩)⟩)⟩)⟩)⟩)⟩)⟩)⟩)⟩)⟩)⟩)⟩)⟩)⟩) H19_ 0 rfl (Nat.le_of_ble_eq_true (by rfl)) ?_)
  intro w22_ S24_ H23_
  have S25_ := Same.trans S21_ S24_
  refine wn (hK12_ _ _ ?_)
  refine cr fun _ hK26_ => ?_
  refine sm (vI .i64 n) ?_
  refine sv (v := (vI .i64 (n + 1))) (x_bin rfl rfl (ib_add (IntWalk.i64_in _ (by omega)))) ?_
  refine sv (v := (vI .i64 (n + 1))) (x_assign rfl) ?_
  refine wn (hK26_ _ _ ?_)
  refine C_seq (fun _ hK27_ => ?_)
  refine cr fun _ hK28_ => ?_
  refine sv (v := (vP (some ⟨b17_, 0, none⟩))) (by kernel_rfl) ?_
  refine sv (v := (vI .i64 x13_.q.kind)) (x_load1 rfl underlying3 rfl ((Holds.rd H23_ 0 rfl) 0 (vI .i64 x13_.q.kind) rfl)) ?_
  refine sv (v := (vB (decide (x13_.q.kind < 1)))) (x_bin rfl rfl rfl) ?_
  refine sm (vB (decide (x13_.q.kind < 1))) ?_
  rcases Bool.eq_false_or_eq_true (decide (x13_.q.kind < 1)) with c29_t | c29_f
  ·have c29_tp : x13_.q.kind < 1 := of_decide_eq_true c29_t
   refine S_no (j := 3) (dj := 21) (b := true) rfl rfl (congrArg vB c29_t) (by decide) ?_
   refine S_no (j := 3) (dj := 21) (b := true) rfl rfl (congrArg vB c29_t) (by decide) ?_
   refine S_no (j := 3) (dj := 21) (b := true) rfl rfl (congrArg vB c29_t) (by decide) ?_
   refine S_list (T_pickT (v := (vB true)) (congrArg vB c29_t) rfl ?_)
   refine sm (vB true) ?_
   refine S_no (j := 8) (dj := 26) (b := true) rfl rfl rfl (by decide) ?_
   refine S_no (j := 8) (dj := 26) (b := true) rfl rfl rfl (by decide) ?_
   refine S_no (j := 8) (dj := 26) (b := true) rfl rfl rfl (by decide) ?_
   refine S_no (j := 8) (dj := 26) (b := true) rfl rfl rfl (by decide) ?_
   refine S_noU (j := 12) (dj := 30) rfl rfl rfl ?_
   refine S_noU (j := 12) (dj := 30) rfl rfl rfl ?_
   refine S_no (j := 8) (dj := 26) (b := true) rfl rfl rfl (by decide) ?_
   refine S_list (T_pickT (v := (vB true)) rfl rfl ?_)
   refine wn (hK28_ _ _ ?_)
   refine C_condT rfl ?_
   refine cr fun _ hK30_ => ?_
   refine sv (v := (vI .i64 (-1))) (x_assign rfl) ?_
   refine wn (hK30_ _ _ ?_)
   refine C_ret (X_thenR (X_blkR (X_thenR (X_thenR (X_blkR (X_thenR ?_))))))
   refine R_any (v := (vI .i64 (-1))) (run_results1 rfl rfl) ?_
   have H31_ := Holds.pkF H23_ [1] 1
   exact ⟨_, _, rfl, ⟨(congrArg (vI .i64) ((by rw [hin, many_bad hx14_ (by rw [manyT_def]; first | exact if_pos (by omega) | (rw [if_neg (by omega), if_neg (by omega)]; exact if_pos (by omega)))]) : -1 = manyL L deep 0)), rfl⟩, S25_, H31_⟩
  ·have c29_fp : ¬ (x13_.q.kind < 1) := of_decide_eq_false c29_f
   refine S_yes (j := 3) (dj := 21) (b := false) rfl rfl (congrArg vB c29_f) (T_val (v := (vP (some ⟨b17_, 0, none⟩))) (by kernel_rfl) ?_)
   refine S_yes (j := 3) (dj := 21) (b := false) rfl rfl (congrArg vB c29_f) (T_val (v := (vI .i64 x13_.q.kind)) (x_load1 rfl underlying3 rfl ((Holds.rd H23_ 0 rfl) 0 (vI .i64 x13_.q.kind) rfl)) ?_)
   refine S_yes (j := 3) (dj := 21) (b := false) rfl rfl (congrArg vB c29_f) (T_val (v := (vB (decide (4 < x13_.q.kind)))) (x_bin rfl rfl rfl) ?_)
   refine S_list (T_pickF (v := (vB (decide (4 < x13_.q.kind)))) (congrArg vB c29_f) rfl ?_)
   refine sm (vB (decide (4 < x13_.q.kind))) ?_
   rcases Bool.eq_false_or_eq_true (decide (4 < x13_.q.kind)) with c32_t | c32_f
   ·have c32_tp : 4 < x13_.q.kind := of_decide_eq_true c32_t
    refine S_no (j := 8) (dj := 26) (b := true) rfl rfl (congrArg vB c32_t) (by decide) ?_
    refine S_no (j := 8) (dj := 26) (b := true) rfl rfl (congrArg vB c32_t) (by decide) ?_
    refine S_no (j := 8) (dj := 26) (b := true) rfl rfl (congrArg vB c32_t) (by decide) ?_
    refine S_no (j := 8) (dj := 26) (b := true) rfl rfl (congrArg vB c32_t) (by decide) ?_
    refine S_noU (j := 12) (dj := 30) rfl rfl rfl ?_
    refine S_noU (j := 12) (dj := 30) rfl rfl rfl ?_
    refine S_no (j := 8) (dj := 26) (b := true) rfl rfl (congrArg vB c32_t) (by decide) ?_
    refine S_list (T_pickT (v := (vB true)) (congrArg vB c32_t) rfl ?_)
    refine wn (hK28_ _ _ ?_)
    refine C_condT rfl ?_
    refine cr fun _ hK33_ => ?_
    refine sv (v := (vI .i64 (-1))) (x_assign rfl) ?_
    refine wn (hK33_ _ _ ?_)
    refine C_ret (X_thenR (X_blkR (X_thenR (X_thenR (X_blkR (X_thenR ?_))))))
    refine R_any (v := (vI .i64 (-1))) (run_results1 rfl rfl) ?_
    have H34_ := Holds.pkF H23_ [1] 1
    exact ⟨_, _, rfl, ⟨(congrArg (vI .i64) ((by rw [hin, many_bad hx14_ (by rw [manyT_def]; first | exact if_pos (by omega) | (rw [if_neg (by omega), if_neg (by omega)]; exact if_pos (by omega)))]) : -1 = manyL L deep 0)), rfl⟩, S25_, H34_⟩
   ·have c32_fp : ¬ (4 < x13_.q.kind) := of_decide_eq_false c32_f
    refine S_yes (j := 8) (dj := 26) (b := false) rfl rfl (congrArg vB c32_f) (T_val (v := (vP (some ⟨b17_, 0, none⟩))) (by kernel_rfl) ?_)
    refine S_yes (j := 8) (dj := 26) (b := false) rfl rfl (congrArg vB c32_f) (T_val (v := (vI .i64 x13_.q.kind)) (x_load1 rfl underlying3 rfl ((Holds.rd H23_ 0 rfl) 0 (vI .i64 x13_.q.kind) rfl)) ?_)
    refine S_yes (j := 8) (dj := 26) (b := false) rfl rfl (congrArg vB c32_f) (T_val (v := (vB (decide (x13_.q.kind = 4)))) (x_bin rfl rfl rfl) ?_)
    refine S_yes (j := 8) (dj := 26) (b := false) rfl rfl (congrArg vB c32_f) (T_val (v := (vB (decide (x13_.q.kind = 4)))) (x_move rfl) ?_)
    rcases Bool.eq_false_or_eq_true (decide (x13_.q.kind = 4)) with c35_t | c35_f
    ·have c35_tp : x13_.q.kind = 4 := of_decide_eq_true c35_t
     refine S_yes (j := 12) (dj := 30) (b := true) rfl rfl (congrArg vB c35_t) (T_val (v := (vI .i64 (deep : Int))) (x_move rfl) ?_)
     refine S_yes (j := 12) (dj := 30) (b := true) rfl rfl (congrArg vB c35_t) (T_val (v := (vB (decide ((deep : Int) = 0)))) (x_bin rfl rfl rfl) ?_)
     refine S_yes (j := 8) (dj := 26) (b := false) rfl rfl (congrArg vB c32_f) (T_pickT (v := (vB (decide ((deep : Int) = 0)))) (congrArg vB c35_t) rfl ?_)
     refine S_list (T_pickF (v := (vB (decide ((deep : Int) = 0)))) (congrArg vB c32_f) rfl ?_)
     refine wn (hK28_ _ _ ?_)
     refine C_cond (b := decide ((deep : Int) = 0)) rfl (fun c36_t => ?_) (fun c36_f => ?_)
     ·have c36_tp : (deep : Int) = 0 := of_decide_eq_true c36_t
      refine cr fun _ hK37_ => ?_
      refine sv (v := (vI .i64 (-1))) (x_assign rfl) ?_
      refine wn (hK37_ _ _ ?_)
      refine C_ret (X_thenR (X_blkR (X_thenR (X_thenR (X_blkR (X_thenR ?_))))))
      refine R_any (v := (vI .i64 (-1))) (run_results1 rfl rfl) ?_
      have H38_ := Holds.pkF H23_ [1] 1
      exact ⟨_, _, rfl, ⟨(congrArg (vI .i64) ((by rw [hin, many_bad hx14_ (by rw [manyT_def]; first | exact if_pos (by omega) | (rw [if_neg (by omega), if_neg (by omega)]; exact if_pos (by omega)))]) : -1 = manyL L deep 0)), rfl⟩, S25_, H38_⟩
     ·have c36_fp : ¬ ((deep : Int) = 0) := of_decide_eq_false c36_f
      refine C_skip (X_then (hK27_ _ _ ?_))
      refine C_seq (fun _ hK39_ => ?_)
      refine cr fun _ hK40_ => ?_
      refine sv (v := (vP (some ⟨b17_, 0, none⟩))) (by kernel_rfl) ?_
      refine sv (v := (vI .i64 x13_.q.kind)) (x_load1 rfl underlying3 rfl ((Holds.rd H23_ 0 rfl) 0 (vI .i64 x13_.q.kind) rfl)) ?_
      refine sv (v := (vB (decide (x13_.q.kind ≠ 4)))) (x_bin rfl rfl rfl) ?_
      refine wn (hK40_ _ _ ?_)
      refine C_cond (b := decide (x13_.q.kind ≠ 4)) rfl (fun c41_t => ?_) (fun c41_f => ?_)
      ·have c41_tp : x13_.q.kind ≠ 4 := of_decide_eq_true c41_t
       refine C_exit (X_thenX (X_blkHit ?_))
       refine (X_then (hK11_ _ _ ?_))
       refine C_reg ?_
       refine sv (v := (vI .i64 ((k : Int) + 1))) (x_bin rfl rfl (ib_add (IntWalk.i64_in _ (by omega)))) ?_
       refine sm (vI .i64 ((k : Int) + 1)) ?_
       refine wpList_nil (X_then ?_)
       have H42_ := Holds.pkF H23_ [1] 1
       exact ⟨⟨k + 1, n + 1, t4_v⟩, ⟨_, congrArg (fun e => mkA 69 e []) (ch (ch (ch (ch (ch (ch rfl rfl) rfl) rfl) rfl) rfl) (congrArg (vI .i64) ((by first | rfl | omega | (simp; done) | (simp; omega)) : (k : Int) + 1 = ((k + 1 : Nat) : Int)))), H42_, S25_, (by first | assumption | omega | exact rfl), (by first | assumption | omega | exact rfl), (by rw [hin, many_go hx14_ (by rw [manyT_def, if_neg (by omega), if_pos (by omega)]) (by omega)])⟩, by first | omega | (dsimp only; omega) | (simp; omega)⟩
      ·have c41_fp : ¬ (x13_.q.kind ≠ 4) := of_decide_eq_false c41_f
       refine C_skip (X_then (hK39_ _ _ ?_))
       refine C_seq (fun _ hK43_ => ?_)
       refine A_start (S := fun w => Rd b17_ [(vI .i64 x13_.q.kind), (Value.string x13_.q.key), (Value.string x13_.q.end_), (Value.string x13_.q.value), (vI .i64 x13_.q.lease), (vI .i64 x13_.q.rev), (vI .i64 x13_.q.limit), (vI .i64 x13_.q.sortOrder), (vI .i64 x13_.q.sortTarget), (vI .i64 x13_.q.minMod), (vI .i64 x13_.q.maxMod), (vI .i64 x13_.q.minCreate), (vI .i64 x13_.q.maxCreate), (vB x13_.q.keysOnly), (vB x13_.q.countOnly), (vB x13_.q.prev), (vB x13_.q.ignoreValue), (vB x13_.q.ignoreLease), x13_.q.cmps, x13_.q.then_, x13_.q.else_] w ∧ Sub R (hp w)) (N := 12) foll rfl rfl ?_
       have H44_ := Holds.drew_ H23_
       have hq45_ := And.intro (Holds.rd H44_ 0 rfl) ((Holds.ro_at H44_ 1 rfl))
       refine A_tk 0 (v := (vP (some ⟨b17_, 19, none⟩))) rfl (by kernel_rfl) (fun w hS => by kernel_rfl) hq45_ ?_
       refine A_tk 1 (v := x13_.q.then_) rfl (by kernel_rfl) (fun w hS => x_load1 rfl underlying23 rfl (hS.1 19 x13_.q.then_ rfl)) hq45_ ?_
       refine A_tk 2 (v := (vI .i64 (deep : Int))) rfl (by kernel_rfl) (fun w hS => x_move rfl) hq45_ ?_
       refine A_tk 3 (v := (vI .i64 ((deep : Int) - 1))) rfl (by kernel_rfl) (fun w hS => x_bin rfl rfl (ib_sub (IntWalk.i64_in _ (by omega)))) hq45_ ?_
       refine A_tk 5 (v := (vP (some ⟨b17_, 20, none⟩))) rfl (by kernel_rfl) (fun w hS => by kernel_rfl) hq45_ ?_
       refine A_tk 6 (v := x13_.q.else_) rfl (by kernel_rfl) (fun w hS => x_load1 rfl underlying23 rfl (hS.1 20 x13_.q.else_ rfl)) hq45_ ?_
       refine A_tk 7 (v := (vI .i64 (deep : Int))) rfl (by kernel_rfl) (fun w hS => x_move rfl) hq45_ ?_
       refine A_tk 8 (v := (vI .i64 ((deep : Int) - 1))) rfl (by kernel_rfl) (fun w hS => x_bin rfl rfl (ib_sub (IntWalk.i64_in _ (by omega)))) hq45_ ?_
       refine A_ready (i := 4) (rs := []) (by kernel_rfl) ?_
       refine AllR.cons ?_ AllR.nil
       have H47_ := ((Holds.bring H44_ 1 rfl) :)
       refine A_op (ls' := #[true, true, true, true, true, true, true, true, true, false, false, false]) rfl (by kernel_rfl) (T_call (al := [x13_.q.then_, (vI .i64 ((deep - 1 : Nat) : Int))]) (pre := []) rfl (lcons rfl (lcons (congrArg (vI .i64) ((by first | rfl | omega | (simp; done) | (simp; omega)) : (deep : Int) - 1 = ((deep - 1 : Nat) : Int))) rfl)) cb38 (ih R x13_.q.then_ x13_.tt (deep - 1) (hra16_.t) (hra16_.tt) (by omega) (by first | assumption | omega) (by omega)) H47_ ?_)
       rintro v46_ p51_ w48_ ⟨rfl, rfl⟩ S50_ H49_
       have S52_ := Same.trans (Same.trans S25_ (Same.drew _)) S50_
       have hbd_tt := manyL_bd x13_.tt (deep - 1) 0 (Int.le_refl 0)
       simp only [Int.zero_add] at hbd_tt
       refine ⟨⟨Holds.rd H49_ 1 rfl, (Holds.ro_at H49_ 0 rfl)⟩, ?_⟩
       refine A_ready (i := 9) (rs := []) (by kernel_rfl) ?_
       refine AllR.cons ?_ AllR.nil
       refine A_op (ls' := #[true, true, true, true, true, true, true, true, true, true, false, false]) rfl (by kernel_rfl) (T_call (al := [x13_.q.else_, (vI .i64 ((deep - 1 : Nat) : Int))]) (pre := []) rfl (lcons rfl (lcons (congrArg (vI .i64) ((by first | rfl | omega | (simp; done) | (simp; omega)) : (deep : Int) - 1 = ((deep - 1 : Nat) : Int))) rfl)) cb38 (ih R x13_.q.else_ x13_.ee (deep - 1) (hra16_.e) (hra16_.ee) (by omega) (by first | assumption | omega) (by omega)) H49_ ?_)
       rintro v53_ p57_ w54_ ⟨rfl, rfl⟩ S56_ H55_
       have S58_ := Same.trans S52_ S56_
       have hbd_ee := manyL_bd x13_.ee (deep - 1) 0 (Int.le_refl 0)
       simp only [Int.zero_add] at hbd_ee
       refine ⟨⟨Holds.rd H55_ 1 rfl, (Holds.ro_at H55_ 0 rfl)⟩, ?_⟩
       have hq59_ := And.intro (Holds.rd H55_ 1 rfl) ((Holds.ro_at H55_ 0 rfl))
       refine A_tk 10 (v := (vI .i64 (manyL x13_.tt (deep - 1) 0))) rfl (by kernel_rfl) (fun w hS => x_assign rfl) hq59_ ?_
       refine A_tk 11 (v := (vI .i64 (manyL x13_.ee (deep - 1) 0))) rfl (by kernel_rfl) (fun w hS => x_assign rfl) hq59_ ?_
       refine A_done (by kernel_rfl) ?_
       refine (X_then (hK43_ _ _ ?_))
       refine cr fun _ hK60_ => ?_
       refine sm (vI .i64 (n + 1)) ?_
       refine sm (vI .i64 (manyL x13_.tt (deep - 1) 0)) ?_
       refine sm (vI .i64 (manyL x13_.ee (deep - 1) 0)) ?_
       refine sv (v := (vI .i64 ((manyL x13_.tt (deep - 1) 0) + (manyL x13_.ee (deep - 1) 0)))) (x_bin rfl rfl (ib_add (IntWalk.i64_in _ (by omega)))) ?_
       refine sv (v := (vP (some ⟨b17_, 18, none⟩))) (by kernel_rfl) ?_
       refine sv (v := x13_.q.cmps) (x_load1 rfl underlying22 rfl ((Holds.rd H55_ 1 rfl) 18 x13_.q.cmps rfl)) ?_
       refine sv (v := (vI .i64 ((List.length x13_.cc) : Int))) (x_lenRS rfl (hra16_.c) underlying22) ?_
       refine sv (v := (vI .i64 (((manyL x13_.tt (deep - 1) 0) + (manyL x13_.ee (deep - 1) 0)) + ((List.length x13_.cc) : Int)))) (x_bin rfl rfl (ib_add (IntWalk.i64_in _ (by omega)))) ?_
       refine sv (v := (vI .i64 ((n + 1) + (((manyL x13_.tt (deep - 1) 0) + (manyL x13_.ee (deep - 1) 0)) + ((List.length x13_.cc) : Int))))) (x_bin rfl rfl (ib_add (IntWalk.i64_in _ (by omega)))) ?_
       refine sv (v := (vI .i64 ((n + 1) + (((manyL x13_.tt (deep - 1) 0) + (manyL x13_.ee (deep - 1) 0)) + ((List.length x13_.cc) : Int))))) (x_assign rfl) ?_
       refine wn (hK60_ _ _ ?_)
       refine cr fun _ hK61_ => ?_
       refine sm (vI .i64 (manyL x13_.tt (deep - 1) 0)) ?_
       refine sv (v := (vB (decide (manyL x13_.tt (deep - 1) 0 < 0)))) (x_bin rfl rfl rfl) ?_
       refine sv (v := (vB (decide (manyL x13_.tt (deep - 1) 0 < 0)))) (x_move rfl) ?_
       rcases Bool.eq_false_or_eq_true (decide (manyL x13_.tt (deep - 1) 0 < 0)) with c62_t | c62_f
       ·have c62_tp : manyL x13_.tt (deep - 1) 0 < 0 := of_decide_eq_true c62_t
        refine S_no (j := 2) (dj := 59) (b := true) rfl rfl (congrArg vB c62_t) (by decide) ?_
        refine S_no (j := 2) (dj := 59) (b := true) rfl rfl (congrArg vB c62_t) (by decide) ?_
        refine S_list (T_pickT (v := (vB true)) (congrArg vB c62_t) rfl ?_)
        refine sm (vB true) ?_
        refine S_no (j := 6) (dj := 63) (b := true) rfl rfl rfl (by decide) ?_
        refine S_no (j := 6) (dj := 63) (b := true) rfl rfl rfl (by decide) ?_
        refine S_list (T_pickT (v := (vB true)) rfl rfl ?_)
        refine wn (hK61_ _ _ ?_)
        refine C_condT rfl ?_
        refine cr fun _ hK63_ => ?_
        refine sv (v := (vI .i64 (-1))) (x_assign rfl) ?_
        refine wn (hK63_ _ _ ?_)
        refine C_ret (X_blkR (X_thenR (X_thenR (X_blkR (X_thenR ?_)))))
        refine R_any (v := (vI .i64 (-1))) (run_results1 rfl rfl) ?_
        have H64_ := Holds.pkF H55_ [0] 1
        exact ⟨_, _, rfl, ⟨(congrArg (vI .i64) ((by rw [hin, many_bad hx14_ (by rw [manyT_def]; first | exact if_pos (by omega) | (rw [if_neg (by omega), if_neg (by omega)]; exact if_pos (by omega)))]) : -1 = manyL L deep 0)), rfl⟩, S58_, H64_⟩
       ·have c62_fp : ¬ (manyL x13_.tt (deep - 1) 0 < 0) := of_decide_eq_false c62_f
        refine S_yes (j := 2) (dj := 59) (b := false) rfl rfl (congrArg vB c62_f) (T_val (v := (vI .i64 (manyL x13_.ee (deep - 1) 0))) (x_move rfl) ?_)
        refine S_yes (j := 2) (dj := 59) (b := false) rfl rfl (congrArg vB c62_f) (T_val (v := (vB (decide (manyL x13_.ee (deep - 1) 0 < 0)))) (x_bin rfl rfl rfl) ?_)
        refine S_list (T_pickF (v := (vB (decide (manyL x13_.ee (deep - 1) 0 < 0)))) (congrArg vB c62_f) rfl ?_)
        refine sv (v := (vB (decide (manyL x13_.ee (deep - 1) 0 < 0)))) (x_move rfl) ?_
        rcases Bool.eq_false_or_eq_true (decide (manyL x13_.ee (deep - 1) 0 < 0)) with c65_t | c65_f
        ·have c65_tp : manyL x13_.ee (deep - 1) 0 < 0 := of_decide_eq_true c65_t
         refine S_no (j := 6) (dj := 63) (b := true) rfl rfl (congrArg vB c65_t) (by decide) ?_
         refine S_no (j := 6) (dj := 63) (b := true) rfl rfl (congrArg vB c65_t) (by decide) ?_
         refine S_list (T_pickT (v := (vB true)) (congrArg vB c65_t) rfl ?_)
         refine wn (hK61_ _ _ ?_)
         refine C_condT rfl ?_
         refine cr fun _ hK66_ => ?_
         refine sv (v := (vI .i64 (-1))) (x_assign rfl) ?_
         refine wn (hK66_ _ _ ?_)
         refine C_ret (X_blkR (X_thenR (X_thenR (X_blkR (X_thenR ?_)))))
         refine R_any (v := (vI .i64 (-1))) (run_results1 rfl rfl) ?_
         have H67_ := Holds.pkF H55_ [0] 1
         exact ⟨_, _, rfl, ⟨(congrArg (vI .i64) ((by rw [hin, many_bad hx14_ (by rw [manyT_def]; first | exact if_pos (by omega) | (rw [if_neg (by omega), if_neg (by omega)]; exact if_pos (by omega)))]) : -1 = manyL L deep 0)), rfl⟩, S58_, H67_⟩
        ·have c65_fp : ¬ (manyL x13_.ee (deep - 1) 0 < 0) := of_decide_eq_false c65_f
         refine S_yes (j := 6) (dj := 63) (b := false) rfl rfl (congrArg vB c65_f) (T_val (v := (vI .i64 ((n + 1) + (((manyL x13_.tt (deep - 1) 0) + (manyL x13_.ee (deep - 1) 0)) + ((List.length x13_.cc) : Int))))) (x_move rfl) ?_)
         refine S_yes (j := 6) (dj := 63) (b := false) rfl rfl (congrArg vB c65_f) (T_val (v := (vB (decide (200 < (n + 1) + (((manyL x13_.tt (deep - 1) 0) + (manyL x13_.ee (deep - 1) 0)) + ((List.length x13_.cc) : Int)))))) (x_bin rfl rfl rfl) ?_)
         refine S_list (T_pickF (v := (vB (decide (200 < (n + 1) + (((manyL x13_.tt (deep - 1) 0) + (manyL x13_.ee (deep - 1) 0)) + ((List.length x13_.cc) : Int)))))) (congrArg vB c65_f) rfl ?_)
         refine wn (hK61_ _ _ ?_)
         refine C_cond (b := decide (200 < (n + 1) + (((manyL x13_.tt (deep - 1) 0) + (manyL x13_.ee (deep - 1) 0)) + ((List.length x13_.cc) : Int)))) rfl (fun c68_t => ?_) (fun c68_f => ?_)
         ·have c68_tp : 200 < (n + 1) + (((manyL x13_.tt (deep - 1) 0) + (manyL x13_.ee (deep - 1) 0)) + ((List.length x13_.cc) : Int)) := of_decide_eq_true c68_t
          refine cr fun _ hK69_ => ?_
          refine sv (v := (vI .i64 (-1))) (x_assign rfl) ?_
          refine wn (hK69_ _ _ ?_)
          refine C_ret (X_blkR (X_thenR (X_thenR (X_blkR (X_thenR ?_)))))
          refine R_any (v := (vI .i64 (-1))) (run_results1 rfl rfl) ?_
          have H70_ := Holds.pkF H55_ [0] 1
          exact ⟨_, _, rfl, ⟨(congrArg (vI .i64) ((by rw [hin, many_bad hx14_ (by rw [manyT_def]; first | exact if_pos (by omega) | (rw [if_neg (by omega), if_neg (by omega)]; exact if_pos (by omega)))]) : -1 = manyL L deep 0)), rfl⟩, S58_, H70_⟩
         ·have c68_fp : ¬ (200 < (n + 1) + (((manyL x13_.tt (deep - 1) 0) + (manyL x13_.ee (deep - 1) 0)) + ((List.length x13_.cc) : Int))) := of_decide_eq_false c68_f
          refine C_skip (X_blkN (X_then (hK11_ _ _ ?_)))
          refine C_reg ?_
          refine sv (v := (vI .i64 ((k : Int) + 1))) (x_bin rfl rfl (ib_add (IntWalk.i64_in _ (by omega)))) ?_
          refine sm (vI .i64 ((k : Int) + 1)) ?_
          refine wpList_nil (X_then ?_)
          have H71_ := Holds.pkF H55_ [0] 1
          exact ⟨⟨k + 1, (n + 1) + (((manyL x13_.tt (deep - 1) 0) + (manyL x13_.ee (deep - 1) 0)) + ((List.length x13_.cc) : Int)), t4_v⟩, ⟨_, congrArg (fun e => mkA 69 e []) (ch (ch (ch (ch (ch (ch rfl rfl) rfl) rfl) rfl) rfl) (congrArg (vI .i64) ((by first | rfl | omega | (simp; done) | (simp; omega)) : (k : Int) + 1 = ((k + 1 : Nat) : Int)))), H71_, S58_, (by first | assumption | omega | exact rfl), (by first | assumption | omega | exact rfl), (by rw [hin, many_go hx14_ (by rw [manyT_def, if_neg (by omega), if_neg (by omega), if_neg (by omega)]) (by omega)])⟩, by first | omega | (dsimp only; omega) | (simp; omega)⟩
    ·have c35_fp : ¬ (x13_.q.kind = 4) := of_decide_eq_false c35_f
     refine S_no (j := 12) (dj := 30) (b := false) rfl rfl (congrArg vB c35_f) (by decide) ?_
     refine S_no (j := 12) (dj := 30) (b := false) rfl rfl (congrArg vB c35_f) (by decide) ?_
     refine S_yes (j := 8) (dj := 26) (b := false) rfl rfl (congrArg vB c32_f) (T_pickF (v := (vB false)) (congrArg vB c35_f) rfl ?_)
     refine S_list (T_pickF (v := (vB false)) (congrArg vB c32_f) rfl ?_)
     refine wn (hK28_ _ _ ?_)
     refine C_condF rfl ?_
     refine C_skip (X_then (hK27_ _ _ ?_))
     refine C_seq (fun _ hK72_ => ?_)
     refine cr fun _ hK73_ => ?_
     refine sv (v := (vP (some ⟨b17_, 0, none⟩))) (by kernel_rfl) ?_
     refine sv (v := (vI .i64 x13_.q.kind)) (x_load1 rfl underlying3 rfl ((Holds.rd H23_ 0 rfl) 0 (vI .i64 x13_.q.kind) rfl)) ?_
     refine sv (v := (vB (decide (x13_.q.kind ≠ 4)))) (x_bin rfl rfl rfl) ?_
     refine wn (hK73_ _ _ ?_)
     refine C_cond (b := decide (x13_.q.kind ≠ 4)) rfl (fun c74_t => ?_) (fun c74_f => ?_)
     ·have c74_tp : x13_.q.kind ≠ 4 := of_decide_eq_true c74_t
      refine C_exit (X_thenX (X_blkHit ?_))
      refine (X_then (hK11_ _ _ ?_))
      refine C_reg ?_
      refine sv (v := (vI .i64 ((k : Int) + 1))) (x_bin rfl rfl (ib_add (IntWalk.i64_in _ (by omega)))) ?_
      refine sm (vI .i64 ((k : Int) + 1)) ?_
      refine wpList_nil (X_then ?_)
      have H75_ := Holds.pkF H23_ [1] 1
      exact ⟨⟨k + 1, n + 1, t4_v⟩, ⟨_, congrArg (fun e => mkA 69 e []) (ch (ch (ch (ch (ch (ch rfl rfl) rfl) rfl) rfl) rfl) (congrArg (vI .i64) ((by first | rfl | omega | (simp; done) | (simp; omega)) : (k : Int) + 1 = ((k + 1 : Nat) : Int)))), H75_, S25_, (by first | assumption | omega | exact rfl), (by first | assumption | omega | exact rfl), (by rw [hin, many_go hx14_ (by rw [manyT_def, if_neg (by omega), if_pos (by omega)]) (by omega)])⟩, by first | omega | (dsimp only; omega) | (simp; omega)⟩
     ·have c74_fp : ¬ (x13_.q.kind ≠ 4) := of_decide_eq_false c74_f
      refine C_skip (X_then (hK72_ _ _ ?_))
      refine C_seq (fun _ hK76_ => ?_)
      refine A_start (S := fun w => Rd b17_ [(vI .i64 x13_.q.kind), (Value.string x13_.q.key), (Value.string x13_.q.end_), (Value.string x13_.q.value), (vI .i64 x13_.q.lease), (vI .i64 x13_.q.rev), (vI .i64 x13_.q.limit), (vI .i64 x13_.q.sortOrder), (vI .i64 x13_.q.sortTarget), (vI .i64 x13_.q.minMod), (vI .i64 x13_.q.maxMod), (vI .i64 x13_.q.minCreate), (vI .i64 x13_.q.maxCreate), (vB x13_.q.keysOnly), (vB x13_.q.countOnly), (vB x13_.q.prev), (vB x13_.q.ignoreValue), (vB x13_.q.ignoreLease), x13_.q.cmps, x13_.q.then_, x13_.q.else_] w ∧ Sub R (hp w)) (N := 12) foll rfl rfl ?_
      have H77_ := Holds.drew_ H23_
      have hq78_ := And.intro (Holds.rd H77_ 0 rfl) ((Holds.ro_at H77_ 1 rfl))
      refine A_tk 0 (v := (vP (some ⟨b17_, 19, none⟩))) rfl (by kernel_rfl) (fun w hS => by kernel_rfl) hq78_ ?_
      refine A_tk 1 (v := x13_.q.then_) rfl (by kernel_rfl) (fun w hS => x_load1 rfl underlying23 rfl (hS.1 19 x13_.q.then_ rfl)) hq78_ ?_
      refine A_tk 2 (v := (vI .i64 (deep : Int))) rfl (by kernel_rfl) (fun w hS => x_move rfl) hq78_ ?_
      refine A_tk 3 (v := (vI .i64 ((deep : Int) - 1))) rfl (by kernel_rfl) (fun w hS => x_bin rfl rfl (ib_sub (IntWalk.i64_in _ (by omega)))) hq78_ ?_
      refine A_tk 5 (v := (vP (some ⟨b17_, 20, none⟩))) rfl (by kernel_rfl) (fun w hS => by kernel_rfl) hq78_ ?_
      refine A_tk 6 (v := x13_.q.else_) rfl (by kernel_rfl) (fun w hS => x_load1 rfl underlying23 rfl (hS.1 20 x13_.q.else_ rfl)) hq78_ ?_
      refine A_tk 7 (v := (vI .i64 (deep : Int))) rfl (by kernel_rfl) (fun w hS => x_move rfl) hq78_ ?_
      refine A_tk 8 (v := (vI .i64 ((deep : Int) - 1))) rfl (by kernel_rfl) (fun w hS => x_bin rfl rfl (ib_sub (IntWalk.i64_in _ (by omega)))) hq78_ ?_
      refine A_ready (i := 4) (rs := []) (by kernel_rfl) ?_
      refine AllR.cons ?_ AllR.nil
      have H80_ := ((Holds.bring H77_ 1 rfl) :)
      refine A_op (ls' := #[true, true, true, true, true, true, true, true, true, false, false, false]) rfl (by kernel_rfl) (T_call (al := [x13_.q.then_, (vI .i64 ((deep - 1 : Nat) : Int))]) (pre := []) rfl (lcons rfl (lcons (congrArg (vI .i64) ((by first | rfl | omega | (simp; done) | (simp; omega)) : (deep : Int) - 1 = ((deep - 1 : Nat) : Int))) rfl)) cb38 (ih R x13_.q.then_ x13_.tt (deep - 1) (hra16_.t) (hra16_.tt) (by omega) (by first | assumption | omega) (by omega)) H80_ ?_)
      rintro v79_ p84_ w81_ ⟨rfl, rfl⟩ S83_ H82_
      have S85_ := Same.trans (Same.trans S25_ (Same.drew _)) S83_
      have hbd_tt := manyL_bd x13_.tt (deep - 1) 0 (Int.le_refl 0)
      simp only [Int.zero_add] at hbd_tt
      refine ⟨⟨Holds.rd H82_ 1 rfl, (Holds.ro_at H82_ 0 rfl)⟩, ?_⟩
      refine A_ready (i := 9) (rs := []) (by kernel_rfl) ?_
      refine AllR.cons ?_ AllR.nil
      refine A_op (ls' := #[true, true, true, true, true, true, true, true, true, true, false, false]) rfl (by kernel_rfl) (T_call (al := [x13_.q.else_, (vI .i64 ((deep - 1 : Nat) : Int))]) (pre := []) rfl (lcons rfl (lcons (congrArg (vI .i64) ((by first | rfl | omega | (simp; done) | (simp; omega)) : (deep : Int) - 1 = ((deep - 1 : Nat) : Int))) rfl)) cb38 (ih R x13_.q.else_ x13_.ee (deep - 1) (hra16_.e) (hra16_.ee) (by omega) (by first | assumption | omega) (by omega)) H82_ ?_)
      rintro v86_ p90_ w87_ ⟨rfl, rfl⟩ S89_ H88_
      have S91_ := Same.trans S85_ S89_
      have hbd_ee := manyL_bd x13_.ee (deep - 1) 0 (Int.le_refl 0)
      simp only [Int.zero_add] at hbd_ee
      refine ⟨⟨Holds.rd H88_ 1 rfl, (Holds.ro_at H88_ 0 rfl)⟩, ?_⟩
      have hq92_ := And.intro (Holds.rd H88_ 1 rfl) ((Holds.ro_at H88_ 0 rfl))
      refine A_tk 10 (v := (vI .i64 (manyL x13_.tt (deep - 1) 0))) rfl (by kernel_rfl) (fun w hS => x_assign rfl) hq92_ ?_
      refine A_tk 11 (v := (vI .i64 (manyL x13_.ee (deep - 1) 0))) rfl (by kernel_rfl) (fun w hS => x_assign rfl) hq92_ ?_
      refine A_done (by kernel_rfl) ?_
      refine (X_then (hK76_ _ _ ?_))
      refine cr fun _ hK93_ => ?_
      refine sm (vI .i64 (n + 1)) ?_
      refine sm (vI .i64 (manyL x13_.tt (deep - 1) 0)) ?_
      refine sm (vI .i64 (manyL x13_.ee (deep - 1) 0)) ?_
      refine sv (v := (vI .i64 ((manyL x13_.tt (deep - 1) 0) + (manyL x13_.ee (deep - 1) 0)))) (x_bin rfl rfl (ib_add (IntWalk.i64_in _ (by omega)))) ?_
      refine sv (v := (vP (some ⟨b17_, 18, none⟩))) (by kernel_rfl) ?_
      refine sv (v := x13_.q.cmps) (x_load1 rfl underlying22 rfl ((Holds.rd H88_ 1 rfl) 18 x13_.q.cmps rfl)) ?_
      refine sv (v := (vI .i64 ((List.length x13_.cc) : Int))) (x_lenRS rfl (hra16_.c) underlying22) ?_
      refine sv (v := (vI .i64 (((manyL x13_.tt (deep - 1) 0) + (manyL x13_.ee (deep - 1) 0)) + ((List.length x13_.cc) : Int)))) (x_bin rfl rfl (ib_add (IntWalk.i64_in _ (by omega)))) ?_
      refine sv (v := (vI .i64 ((n + 1) + (((manyL x13_.tt (deep - 1) 0) + (manyL x13_.ee (deep - 1) 0)) + ((List.length x13_.cc) : Int))))) (x_bin rfl rfl (ib_add (IntWalk.i64_in _ (by omega)))) ?_
      refine sv (v := (vI .i64 ((n + 1) + (((manyL x13_.tt (deep - 1) 0) + (manyL x13_.ee (deep - 1) 0)) + ((List.length x13_.cc) : Int))))) (x_assign rfl) ?_
      refine wn (hK93_ _ _ ?_)
      refine cr fun _ hK94_ => ?_
      refine sm (vI .i64 (manyL x13_.tt (deep - 1) 0)) ?_
      refine sv (v := (vB (decide (manyL x13_.tt (deep - 1) 0 < 0)))) (x_bin rfl rfl rfl) ?_
      refine sv (v := (vB (decide (manyL x13_.tt (deep - 1) 0 < 0)))) (x_move rfl) ?_
      rcases Bool.eq_false_or_eq_true (decide (manyL x13_.tt (deep - 1) 0 < 0)) with c95_t | c95_f
      ·have c95_tp : manyL x13_.tt (deep - 1) 0 < 0 := of_decide_eq_true c95_t
       refine S_no (j := 2) (dj := 59) (b := true) rfl rfl (congrArg vB c95_t) (by decide) ?_
       refine S_no (j := 2) (dj := 59) (b := true) rfl rfl (congrArg vB c95_t) (by decide) ?_
       refine S_list (T_pickT (v := (vB true)) (congrArg vB c95_t) rfl ?_)
       refine sm (vB true) ?_
       refine S_no (j := 6) (dj := 63) (b := true) rfl rfl rfl (by decide) ?_
       refine S_no (j := 6) (dj := 63) (b := true) rfl rfl rfl (by decide) ?_
       refine S_list (T_pickT (v := (vB true)) rfl rfl ?_)
       refine wn (hK94_ _ _ ?_)
       refine C_condT rfl ?_
       refine cr fun _ hK96_ => ?_
       refine sv (v := (vI .i64 (-1))) (x_assign rfl) ?_
       refine wn (hK96_ _ _ ?_)
       refine C_ret (X_blkR (X_thenR (X_thenR (X_blkR (X_thenR ?_)))))
       refine R_any (v := (vI .i64 (-1))) (run_results1 rfl rfl) ?_
       have H97_ := Holds.pkF H88_ [0] 1
       exact ⟨_, _, rfl, ⟨(congrArg (vI .i64) ((by rw [hin, many_bad hx14_ (by rw [manyT_def]; first | exact if_pos (by omega) | (rw [if_neg (by omega), if_neg (by omega)]; exact if_pos (by omega)))]) : -1 = manyL L deep 0)), rfl⟩, S91_, H97_⟩
      ·have c95_fp : ¬ (manyL x13_.tt (deep - 1) 0 < 0) := of_decide_eq_false c95_f
       refine S_yes (j := 2) (dj := 59) (b := false) rfl rfl (congrArg vB c95_f) (T_val (v := (vI .i64 (manyL x13_.ee (deep - 1) 0))) (x_move rfl) ?_)
       refine S_yes (j := 2) (dj := 59) (b := false) rfl rfl (congrArg vB c95_f) (T_val (v := (vB (decide (manyL x13_.ee (deep - 1) 0 < 0)))) (x_bin rfl rfl rfl) ?_)
       refine S_list (T_pickF (v := (vB (decide (manyL x13_.ee (deep - 1) 0 < 0)))) (congrArg vB c95_f) rfl ?_)
       refine sv (v := (vB (decide (manyL x13_.ee (deep - 1) 0 < 0)))) (x_move rfl) ?_
       rcases Bool.eq_false_or_eq_true (decide (manyL x13_.ee (deep - 1) 0 < 0)) with c98_t | c98_f
       ·have c98_tp : manyL x13_.ee (deep - 1) 0 < 0 := of_decide_eq_true c98_t
        refine S_no (j := 6) (dj := 63) (b := true) rfl rfl (congrArg vB c98_t) (by decide) ?_
        refine S_no (j := 6) (dj := 63) (b := true) rfl rfl (congrArg vB c98_t) (by decide) ?_
        refine S_list (T_pickT (v := (vB true)) (congrArg vB c98_t) rfl ?_)
        refine wn (hK94_ _ _ ?_)
        refine C_condT rfl ?_
        refine cr fun _ hK99_ => ?_
        refine sv (v := (vI .i64 (-1))) (x_assign rfl) ?_
        refine wn (hK99_ _ _ ?_)
        refine C_ret (X_blkR (X_thenR (X_thenR (X_blkR (X_thenR ?_)))))
        refine R_any (v := (vI .i64 (-1))) (run_results1 rfl rfl) ?_
        have H100_ := Holds.pkF H88_ [0] 1
        exact ⟨_, _, rfl, ⟨(congrArg (vI .i64) ((by rw [hin, many_bad hx14_ (by rw [manyT_def]; first | exact if_pos (by omega) | (rw [if_neg (by omega), if_neg (by omega)]; exact if_pos (by omega)))]) : -1 = manyL L deep 0)), rfl⟩, S91_, H100_⟩
       ·have c98_fp : ¬ (manyL x13_.ee (deep - 1) 0 < 0) := of_decide_eq_false c98_f
        refine S_yes (j := 6) (dj := 63) (b := false) rfl rfl (congrArg vB c98_f) (T_val (v := (vI .i64 ((n + 1) + (((manyL x13_.tt (deep - 1) 0) + (manyL x13_.ee (deep - 1) 0)) + ((List.length x13_.cc) : Int))))) (x_move rfl) ?_)
        refine S_yes (j := 6) (dj := 63) (b := false) rfl rfl (congrArg vB c98_f) (T_val (v := (vB (decide (200 < (n + 1) + (((manyL x13_.tt (deep - 1) 0) + (manyL x13_.ee (deep - 1) 0)) + ((List.length x13_.cc) : Int)))))) (x_bin rfl rfl rfl) ?_)
        refine S_list (T_pickF (v := (vB (decide (200 < (n + 1) + (((manyL x13_.tt (deep - 1) 0) + (manyL x13_.ee (deep - 1) 0)) + ((List.length x13_.cc) : Int)))))) (congrArg vB c98_f) rfl ?_)
        refine wn (hK94_ _ _ ?_)
        refine C_cond (b := decide (200 < (n + 1) + (((manyL x13_.tt (deep - 1) 0) + (manyL x13_.ee (deep - 1) 0)) + ((List.length x13_.cc) : Int)))) rfl (fun c101_t => ?_) (fun c101_f => ?_)
        ·have c101_tp : 200 < (n + 1) + (((manyL x13_.tt (deep - 1) 0) + (manyL x13_.ee (deep - 1) 0)) + ((List.length x13_.cc) : Int)) := of_decide_eq_true c101_t
         refine cr fun _ hK102_ => ?_
         refine sv (v := (vI .i64 (-1))) (x_assign rfl) ?_
         refine wn (hK102_ _ _ ?_)
         refine C_ret (X_blkR (X_thenR (X_thenR (X_blkR (X_thenR ?_)))))
         refine R_any (v := (vI .i64 (-1))) (run_results1 rfl rfl) ?_
         have H103_ := Holds.pkF H88_ [0] 1
         exact ⟨_, _, rfl, ⟨(congrArg (vI .i64) ((by rw [hin, many_bad hx14_ (by rw [manyT_def]; first | exact if_pos (by omega) | (rw [if_neg (by omega), if_neg (by omega)]; exact if_pos (by omega)))]) : -1 = manyL L deep 0)), rfl⟩, S91_, H103_⟩
        ·have c101_fp : ¬ (200 < (n + 1) + (((manyL x13_.tt (deep - 1) 0) + (manyL x13_.ee (deep - 1) 0)) + ((List.length x13_.cc) : Int))) := of_decide_eq_false c101_f
         refine C_skip (X_blkN (X_then (hK11_ _ _ ?_)))
         refine C_reg ?_
         refine sv (v := (vI .i64 ((k : Int) + 1))) (x_bin rfl rfl (ib_add (IntWalk.i64_in _ (by omega)))) ?_
         refine sm (vI .i64 ((k : Int) + 1)) ?_
         refine wpList_nil (X_then ?_)
         have H104_ := Holds.pkF H88_ [0] 1
         exact ⟨⟨k + 1, (n + 1) + (((manyL x13_.tt (deep - 1) 0) + (manyL x13_.ee (deep - 1) 0)) + ((List.length x13_.cc) : Int)), t4_v⟩, ⟨_, congrArg (fun e => mkA 69 e []) (ch (ch (ch (ch (ch (ch rfl rfl) rfl) rfl) rfl) rfl) (congrArg (vI .i64) ((by first | rfl | omega | (simp; done) | (simp; omega)) : (k : Int) + 1 = ((k + 1 : Nat) : Int)))), H104_, S91_, (by first | assumption | omega | exact rfl), (by first | assumption | omega | exact rfl), (by rw [hin, many_go hx14_ (by rw [manyT_def, if_neg (by omega), if_neg (by omega), if_neg (by omega)]) (by omega)])⟩, by first | omega | (dsimp only; omega) | (simp; omega)⟩
 ·have c10_fp : ¬ ((k : Int) < ((List.length L) : Int)) := of_decide_eq_false c10_f
  refine C_exit (X_thenX (X_thenX (X_blkHit ?_)))
  refine (X_then (hK3_ _ _ ?_))
  refine cr fun _ hK105_ => ?_
  refine sm (vI .i64 n) ?_
  refine sv (v := (vI .i64 n)) (x_assign rfl) ?_
  refine wn (hK105_ _ _ ?_)
  refine C_ret ?_
  refine R_any (v := (vI .i64 n)) (run_results1 rfl rfl) ?_
  exact ⟨_, _, rfl, ⟨(congrArg (vI .i64) ((by rw [hin, many_end (by omega)]) : n = manyL L deep 0)), rfl⟩, S7_, H6_⟩

theorem ckManyL (R : HP) (v : Value) (L : List RT) (deep : Nat) (hL : RS R 21 v (List.length L) (L.flatMap RT.cells)) (hR : RAts R L) (hl : L.length ≤ 1000000000000000) (hd : deep ≤ 10) : Tri Try.prog 38 #[v, (vI .i64 (deep : Int))] R [] (fun v__ post__ => v__ = (vI .i64 (manyL L deep 0)) ∧ post__ = []) := by
  have key : ∀ (n__ : Nat) (R : HP) (v : Value) (L : List RT) (deep : Nat) (hL : RS R 21 v (List.length L) (L.flatMap RT.cells)) (hR : RAts R L) (hl : L.length ≤ 1000000000000000) (hd : deep ≤ 10) (hn__ : lsz L = n__), Tri Try.prog 38 #[v, (vI .i64 (deep : Int))] R [] (fun v__ post__ => v__ = (vI .i64 (manyL L deep 0)) ∧ post__ = []) := by
    intro n__
    induction n__ using Nat.strongRecOn with
    | ind n__ ih => intro R v L deep hL hR hl hd hn__; exact ckManyL_step R v L deep n__ hL hR hl hd (Nat.le_of_eq hn__) (fun R v L deep hL hR hl hd hms => ih _ hms R v L deep hL hR hl hd rfl)
  exact key _ R v L deep hL hR hl hd rfl
end Go.Proofs.Ytlnihndjepjagaa
set_option linter.unusedVariables false
set_option linter.unusedSimpArgs false
namespace Go.Proofs.Ytlnihndjepjagaa
open Go Go.RowKit Gw Try
open Go.Value renaming int → vI, bool → vB, slice → vS, pointer → vP, agg → vA, tuple → vT

set_option maxHeartbeats 1600000 in
theorem ckFew (R : HP) (v : Value) (L : List RT) (hL : RS R 21 v (List.length L) (L.flatMap RT.cells)) (hR : RAts R L) (hl : L.length ≤ 1000000000000000) :
    Tri Try.prog 11 #[v] R [] (fun v__ post__ => v__ = (vB (decide (0 ≤ manyL L 3 0 ∧ manyL L 3 0 ≤ 200))) ∧ post__ = []) := by
 refine Tri.into (n := 12) (al := [v]) func11 rfl ntmps11 rfl rfl fun w F H => ?_
 refine cr fun _ hK1_ => ?_
 refine sv (v := (vB false)) (x_assign rfl) ?_
 refine wn (hK1_ _ _ ?_)
 refine cr fun _ hK2_ => ?_
 refine sv (v := v) (x_move rfl) ?_
 refine S_list (T_call (al := [v, (vI .i64 (3 : Int))]) (pre := []) rfl (lcons rfl (lcons (congrArg (vI .i64) ((by first | rfl | omega | (simp; done) | (simp; omega)) : 3 = (3 : Int))) rfl)) cb38 (ckManyL R v L 3 hL (by first | assumption | omega) (by first | assumption | omega) (by first | assumption | omega)) H ?_)
 rintro v3_ p7_ w4_ ⟨rfl, rfl⟩ S6_ H5_
 have S8_ := Same.trans (Same.refl w) S6_
 refine sv (v := (vI .i64 (manyL L 3 0))) (x_assign rfl) ?_
 refine wn (hK2_ _ _ ?_)
 refine cr fun _ hK9_ => ?_
 refine sm (vI .i64 (manyL L 3 0)) ?_
 refine sv (v := (vB (decide (0 ≤ manyL L 3 0)))) (x_bin rfl rfl rfl) ?_
 refine sm (vB (decide (0 ≤ manyL L 3 0))) ?_
 rcases Bool.eq_false_or_eq_true (decide (0 ≤ manyL L 3 0)) with c10_t | c10_f
 ·have c10_tp : 0 ≤ manyL L 3 0 := of_decide_eq_true c10_t
  refine S_yes (j := 2) (dj := 8) (b := true) rfl rfl (congrArg vB c10_t) (T_val (v := (vI .i64 (manyL L 3 0))) (x_move rfl) ?_)
  refine S_yes (j := 2) (dj := 8) (b := true) rfl rfl (congrArg vB c10_t) (T_val (v := (vB (decide (manyL L 3 0 ≤ 200)))) (x_bin rfl rfl rfl) ?_)
  refine S_list (T_pickT (v := (vB (decide (manyL L 3 0 ≤ 200)))) (congrArg vB c10_t) rfl ?_)
  refine sv (v := (vB (decide (manyL L 3 0 ≤ 200)))) (x_assign rfl) ?_
  refine wn (hK9_ _ _ ?_)
  refine C_ret ?_
  refine R_any (v := (vB (decide (manyL L 3 0 ≤ 200)))) (run_results1 rfl rfl) ?_
  exact ⟨_, _, rfl, ⟨(congrArg vB ((by first | rfl | (simp_all; done) | (simp_all; omega)) : (decide (manyL L 3 0 ≤ 200)) = (decide (0 ≤ manyL L 3 0 ∧ manyL L 3 0 ≤ 200)))), rfl⟩, S8_, H5_⟩
 ·have c10_fp : ¬ (0 ≤ manyL L 3 0) := of_decide_eq_false c10_f
  refine S_no (j := 2) (dj := 8) (b := false) rfl rfl (congrArg vB c10_f) (by decide) ?_
  refine S_no (j := 2) (dj := 8) (b := false) rfl rfl (congrArg vB c10_f) (by decide) ?_
  refine S_list (T_pickF (v := (vB false)) (congrArg vB c10_f) rfl ?_)
  refine sv (v := (vB false)) (x_assign rfl) ?_
  refine wn (hK9_ _ _ ?_)
  refine C_ret ?_
  refine R_any (v := (vB false)) (run_results1 rfl rfl) ?_
  exact ⟨_, _, rfl, ⟨(congrArg vB ((by first | rfl | (simp_all; done) | (simp_all; omega)) : false = (decide (0 ≤ manyL L 3 0 ∧ manyL L 3 0 ≤ 200)))), rfl⟩, S8_, H5_⟩

end Go.Proofs.Ytlnihndjepjagaa
set_option linter.unusedVariables false
set_option linter.unusedSimpArgs false
namespace Go.Proofs.Ytlnihndjepjagaa
open Go Go.RowKit Gw Try
open Go.Value renaming int → vI, bool → vB, slice → vS, pointer → vP, agg → vA, tuple → vT

end Go.Proofs.Ytlnihndjepjagaa
set_option linter.unusedVariables false
set_option linter.unusedSimpArgs false
namespace Go.Proofs.Ytlnihndjepjagaa
open Go Go.RowKit Gw Try
open Go.Value renaming int → vI, bool → vB, slice → vS, pointer → vP, agg → vA, tuple → vT

def ord32 (i : Int) : Int := if i < -2147483648 ∨ 2147483647 < i then -1 else i
def pv (b : Nat) : Value := .pointer (some ⟨b, 0, none⟩)
def All2 {α : Type} (P : Nat → α → Prop) (C : List Nat) (l : List α) : Prop := C.length = l.length ∧ ∀ (i c : Nat) (y : α), C[i]? = some c → l[i]? = some y → P c y
theorem All2.nil {α : Type} {P : Nat → α → Prop} : All2 P [] ([] : List α) := ⟨rfl, fun i c y h => by simp at h⟩
theorem All2.mono {α : Type} {P P' : Nat → α → Prop} {C : List Nat} {l : List α} (h : All2 P C l) (hp : ∀ c y, P c y → P' c y) : All2 P' C l := ⟨h.1, fun i c y a b => hp c y (h.2 i c y a b)⟩
theorem All2.snoc {α : Type} {P : Nat → α → Prop} {C : List Nat} {l : List α} {k c : Nat} {y : α} (h : All2 P C (l.take k)) (hy : l[k]? = some y) (hp : P c y) : All2 P (C ++ [c]) (l.take (k + 1)) := by
  have hk := (List.getElem?_eq_some_iff.1 hy).1
  have hl : C.length = k := by have := h.1; rw [List.length_take] at this; omega
  rw [take_snoc hy]
  refine ⟨by rw [List.length_append, List.length_append, h.1]; rfl, fun i a z h1 h2 => ?_⟩
  by_cases hi : i < C.length
  · rw [List.getElem?_append_left hi] at h1
    rw [List.getElem?_append_left (by rw [← h.1]; exact hi)] at h2
    exact h.2 i a z h1 h2
  · have hi2 : i = C.length := by
      have := (List.getElem?_eq_some_iff.1 h1).1
      rw [List.length_append] at this; simp at this; omega
    subst hi2
    rw [List.getElem?_append_right (Nat.le_refl _), Nat.sub_self] at h1
    have e : C.length = (l.take k).length := h.1
    rw [e, List.getElem?_append_right (Nat.le_refl _), Nat.sub_self] at h2
    simp at h1 h2
    subst h1; subst h2; exact hp
theorem All2.at_ {α : Type} {P : Nat → α → Prop} {C : List Nat} {l : List α} (h : All2 P C l) {k c : Nat} (hc : C[k]? = some c) : ∃ y, l[k]? = some y ∧ P c y := by
  have hk := (List.getElem?_eq_some_iff.1 hc).1
  rw [h.1] at hk
  exact ⟨l[k], List.getElem?_eq_some_iff.2 ⟨hk, rfl⟩, h.2 k c _ hc (List.getElem?_eq_some_iff.2 ⟨hk, rfl⟩)⟩
def CmpAt (R : HP) (b : Nat) (y : CM) : Prop := ∃ (kv c0 c1 : Value), RS R 1 kv (List.length (ints y.key)) (bytesV (ints y.key)) ∧ RC R b 0 [c0, c1, kv]
def RngAt (R : HP) (b : Nat) (x : RT) : Prop := ∃ (kv c1 c2 c3 : Value), RS R 1 kv (List.length (ints x.q.key)) (bytesV (ints x.q.key)) ∧ RC R b 0 [kv, c1, c2, c3, .int .i32 (ord32 x.q.sortOrder), .int .i32 (ord32 x.q.sortTarget)]
inductive OpAt (R : HP) : Nat → RT → Prop
  | rng (b b1 b2 : Nat) (x : RT) : x.q.kind = 1 → RC R b 0 [.iface 150 (pv b1)] → RC R b1 0 [pv b2] → RngAt R b2 x → OpAt R b x
  | txn (b b1 b2 : Nat) (x : RT) (v1 v2 v3 : Value) (C T E : List Nat) : x.q.kind = 4 → RC R b 0 [.iface 161 (pv b1)] → RC R b1 0 [pv b2] → RC R b2 0 [v1, v2, v3] →
      RS R 1 v1 (List.length C) (C.map pv) → RS R 1 v2 (List.length T) (T.map pv) → RS R 1 v3 (List.length E) (E.map pv) → All2 (CmpAt R) C x.cc →
      T.length = x.tt.length → (∀ (i c : Nat) (y : RT), T[i]? = some c → x.tt[i]? = some y → OpAt R c y) → E.length = x.ee.length → (∀ (i c : Nat) (y : RT), E[i]? = some c → x.ee[i]? = some y → OpAt R c y) → OpAt R b x
def TxnAt (R : HP) (b : Nat) (x : RT) : Prop := ∃ (v1 v2 v3 : Value) (C T E : List Nat), RC R b 0 [v1, v2, v3] ∧ RS R 1 v1 (List.length C) (C.map pv) ∧ RS R 1 v2 (List.length T) (T.map pv) ∧ RS R 1 v3 (List.length E) (E.map pv) ∧
  All2 (CmpAt R) C x.cc ∧ All2 (OpAt R) T x.tt ∧ All2 (OpAt R) E x.ee
theorem CmpAt.mono {R R' : HP} (s : Sub R R') {b : Nat} {y : CM} (h : CmpAt R b y) : CmpAt R' b y := by
  obtain ⟨kv, c0, c1, h1, h2⟩ := h; exact ⟨kv, c0, c1, h1.mono s, h2.mono s⟩
theorem RngAt.mono {R R' : HP} (s : Sub R R') {b : Nat} {y : RT} (h : RngAt R b y) : RngAt R' b y := by
  obtain ⟨kv, c1, c2, c3, h1, h2⟩ := h; exact ⟨kv, c1, c2, c3, h1.mono s, h2.mono s⟩
theorem OpAt.mono {R R' : HP} (s : Sub R R') : ∀ {b : Nat} {x : RT}, OpAt R b x → OpAt R' b x := by
  intro b x h
  induction h with
  | rng b b1 b2 x hk h1 h2 h3 => exact .rng b b1 b2 x hk (h1.mono s) (h2.mono s) (h3.mono s)
  | txn b b1 b2 x v1 v2 v3 C T E hk h1 h2 h3 h4 h5 h6 h7 h8 _ h10 _ ih1 ih2 =>
    exact .txn b b1 b2 x v1 v2 v3 C T E hk (h1.mono s) (h2.mono s) (h3.mono s) (h4.mono s) (h5.mono s) (h6.mono s) (h7.mono fun c y h => h.mono s) h8 ih1 h10 ih2
theorem OpAt.all {R R' : HP} (s : Sub R R') {C : List Nat} {l : List RT} (h : All2 (OpAt R) C l) : All2 (OpAt R') C l := h.mono fun _ _ h => h.mono s
theorem TxnAt.mono {R R' : HP} (s : Sub R R') {b : Nat} {x : RT} (h : TxnAt R b x) : TxnAt R' b x := by
  obtain ⟨v1, v2, v3, C, T, E, a1, a2, a3, a4, a5, a6, a7⟩ := h
  exact ⟨v1, v2, v3, C, T, E, a1.mono s, a2.mono s, a3.mono s, a4.mono s, a5.mono fun _ _ h => h.mono s, OpAt.all s a6, OpAt.all s a7⟩
set_option maxHeartbeats 1600000 in
theorem ckOrder (R : HP) (i : Int) :
    Tri Try.prog 68 #[(vI .i64 i)] R [] (fun v__ post__ => v__ = (vI .i32 (ord32 i)) ∧ post__ = []) := by
 refine Tri.into (n := 11) (al := [(vI .i64 i)]) func68 rfl ntmps68 rfl rfl fun w F H => ?_
 refine cr fun _ hK1_ => ?_
 refine sv (v := (vI .i32 0)) (x_assign rfl) ?_
 refine wn (hK1_ _ _ ?_)
 refine C_seq (fun _ hK2_ => ?_)
 refine cr fun _ hK3_ => ?_
 refine sm (vI .i64 i) ?_
 refine sv (v := (vB (decide (i < -2147483648)))) (x_bin rfl rfl rfl) ?_
 refine sm (vB (decide (i < -2147483648))) ?_
 rcases Bool.eq_false_or_eq_true (decide (i < -2147483648)) with c4_t | c4_f
 ·have c4_tp : i < -2147483648 := of_decide_eq_true c4_t
  refine S_no (j := 2) (dj := 5) (b := true) rfl rfl (congrArg vB c4_t) (by decide) ?_
  refine S_no (j := 2) (dj := 5) (b := true) rfl rfl (congrArg vB c4_t) (by decide) ?_
  refine S_list (T_pickT (v := (vB true)) (congrArg vB c4_t) rfl ?_)
  refine wn (hK3_ _ _ ?_)
  refine C_condT rfl ?_
  refine cr fun _ hK5_ => ?_
  refine sv (v := (vI .i32 (-1))) (x_assign rfl) ?_
  refine wn (hK5_ _ _ ?_)
  refine C_ret (X_thenR ?_)
  refine R_any (v := (vI .i32 (-1))) (run_results1 rfl rfl) ?_
  exact ⟨_, _, rfl, ⟨(congrArg (vI .i32) ((by unfold ord32; rw [if_pos (by omega)]) : -1 = ord32 i)), rfl⟩, (Same.refl w), H⟩
 ·have c4_fp : ¬ (i < -2147483648) := of_decide_eq_false c4_f
  refine S_yes (j := 2) (dj := 5) (b := false) rfl rfl (congrArg vB c4_f) (T_val (v := (vI .i64 i)) (x_move rfl) ?_)
  refine S_yes (j := 2) (dj := 5) (b := false) rfl rfl (congrArg vB c4_f) (T_val (v := (vB (decide (2147483647 < i)))) (x_bin rfl rfl rfl) ?_)
  refine S_list (T_pickF (v := (vB (decide (2147483647 < i)))) (congrArg vB c4_f) rfl ?_)
  refine wn (hK3_ _ _ ?_)
  refine C_cond (b := decide (2147483647 < i)) rfl (fun c6_t => ?_) (fun c6_f => ?_)
  ·have c6_tp : 2147483647 < i := of_decide_eq_true c6_t
   refine cr fun _ hK7_ => ?_
   refine sv (v := (vI .i32 (-1))) (x_assign rfl) ?_
   refine wn (hK7_ _ _ ?_)
   refine C_ret (X_thenR ?_)
   refine R_any (v := (vI .i32 (-1))) (run_results1 rfl rfl) ?_
   exact ⟨_, _, rfl, ⟨(congrArg (vI .i32) ((by unfold ord32; rw [if_pos (by omega)]) : -1 = ord32 i)), rfl⟩, (Same.refl w), H⟩
  ·have c6_fp : ¬ (2147483647 < i) := of_decide_eq_false c6_f
   refine C_skip (X_then (hK2_ _ _ ?_))
   refine cr fun _ hK8_ => ?_
   refine sm (vI .i64 i) ?_
   refine sv (v := (vI .i32 (IntKind.i32.wrap i))) (x_convI rfl underlying3 underlying21 rfl) ?_
   refine sv (v := (vI .i32 (IntKind.i32.wrap i))) (x_assign rfl) ?_
   refine wn (hK8_ _ _ ?_)
   refine C_ret ?_
   refine R_any (v := (vI .i32 (IntKind.i32.wrap i))) (run_results1 rfl rfl) ?_
   exact ⟨_, _, rfl, ⟨(congrArg (vI .i32) ((by unfold ord32; rw [if_neg (by omega)]; exact IntWalk.i32_in _ (by omega)) : IntKind.i32.wrap i = ord32 i)), rfl⟩, (Same.refl w), H⟩

set_option maxHeartbeats 1600000 in
theorem ckBytes (R : HP) (t : ByteArray) :
    Tri Try.prog 67 #[(Value.string t)] R [] (fun v__ post__ => ∃ (a' : Option Addr) (m' c' : Nat), v__ = (vS a' m' c') ∧ post__ = []) := by
 refine Tri.into (n := 7) (al := [(Value.string t)]) func67 rfl ntmps67 rfl rfl fun w F H => ?_
 refine cr fun _ hK1_ => ?_
 refine sv (v := (vS none 0 0)) (x_assign rfl) ?_
 refine wn (hK1_ _ _ ?_)
 refine C_seq (fun _ hK2_ => ?_)
 refine cr fun _ hK3_ => ?_
 refine sm (Value.string t) ?_
 refine sv (v := (vB (t.toList == (ByteArray.mk #[]).toList))) (x_str rfl rfl rfl (by decide)) ?_
 refine wn (hK3_ _ _ ?_)
 refine C_cond (b := t.toList == (ByteArray.mk #[]).toList) rfl (fun c4_t => ?_) (fun c4_f => ?_)
 ·skip
  refine cr fun _ hK5_ => ?_
  refine sv (v := (vS none 0 0)) (x_assign rfl) ?_
  refine wn (hK5_ _ _ ?_)
  refine C_ret (X_thenR ?_)
  refine R_any (v := (vS none 0 0)) (run_results1 rfl rfl) ?_
  exact ⟨_, _, rfl, ⟨none, 0, 0, rfl, rfl⟩, (Same.refl w), H⟩
 ·skip
  refine C_skip (X_then (hK2_ _ _ ?_))
  refine cr fun _ hK6_ => ?_
  refine sm (Value.string t) ?_
  refine S_list (T_s2b rfl underlying9 underlying122 underlying5 H ?_)
  intro b7_ cp8_ w9_ S11_ hc12_ H10_
  have S13_ := Same.trans (Same.refl w) S11_
  have H14_ := Holds.resl H10_ 0 rfl (byteCells_bytesV _ : byteCells t = bytesV (ints t)) rfl
  have H15_ := Holds.resl H14_ 0 rfl (rfl : bytesV (ints t) = bytesV (ints t)) ((ints_length _).symm : t.size = (List.length (ints t)))
  refine sv (v := (vS (some ⟨b7_, 0, none⟩) t.size cp8_)) (x_assign rfl) ?_
  refine wn (hK6_ _ _ ?_)
  refine C_ret ?_
  refine R_any (v := (vS (some ⟨b7_, 0, none⟩) t.size cp8_)) (run_results1 rfl rfl) ?_
  have H16_ := Holds.pkF H15_ [1] 1
  exact ⟨_, _, rfl, ⟨(some ⟨b7_, 0, none⟩), t.size, cp8_, rfl, rfl⟩, S13_, H16_⟩
end Go.Proofs.Ytlnihndjepjagaa
set_option linter.unusedVariables false
set_option linter.unusedSimpArgs false
namespace Go.Proofs.Ytlnihndjepjagaa
open Go Go.RowKit Gw Try
open Go.Value renaming int → vI, bool → vB, slice → vS, pointer → vP, agg → vA, tuple → vT

set_option maxHeartbeats 1600000 in
theorem ckRangeIn (R : HP) (x : RT) :
    TriG Try.prog 42 #[(vA #[(vI .i64 x.q.kind), (Value.string x.q.key), (Value.string x.q.end_), (Value.string x.q.value), (vI .i64 x.q.lease), (vI .i64 x.q.rev), (vI .i64 x.q.limit), (vI .i64 x.q.sortOrder), (vI .i64 x.q.sortTarget), (vI .i64 x.q.minMod), (vI .i64 x.q.maxMod), (vI .i64 x.q.minCreate), (vI .i64 x.q.maxCreate), (vB x.q.keysOnly), (vB x.q.countOnly), (vB x.q.prev), (vB x.q.ignoreValue), (vB x.q.ignoreLease), x.q.cmps, x.q.then_, x.q.else_])] R [] (fun R' v__ post__ => ∃ (b' : Nat), v__ = (vP (some ⟨b', 0, none⟩)) ∧ post__ = [] ∧ (RngAt R' b' x)) := by
 refine TriG.into (n := 35) (al := [(vA #[(vI .i64 x.q.kind), (Value.string x.q.key), (Value.string x.q.end_), (Value.string x.q.value), (vI .i64 x.q.lease), (vI .i64 x.q.rev), (vI .i64 x.q.limit), (vI .i64 x.q.sortOrder), (vI .i64 x.q.sortTarget), (vI .i64 x.q.minMod), (vI .i64 x.q.maxMod), (vI .i64 x.q.minCreate), (vI .i64 x.q.maxCreate), (vB x.q.keysOnly), (vB x.q.countOnly), (vB x.q.prev), (vB x.q.ignoreValue), (vB x.q.ignoreLease), x.q.cmps, x.q.then_, x.q.else_])]) func42 rfl ntmps42 rfl rfl fun w F H => ?_
 refine cr fun _ hK1_ => ?_
 refine S_list (T_box (v := (vA #[(vI .i64 x.q.kind), (Value.string x.q.key), (Value.string x.q.end_), (Value.string x.q.value), (vI .i64 x.q.lease), (vI .i64 x.q.rev), (vI .i64 x.q.limit), (vI .i64 x.q.sortOrder), (vI .i64 x.q.sortTarget), (vI .i64 x.q.minMod), (vI .i64 x.q.maxMod), (vI .i64 x.q.minCreate), (vI .i64 x.q.maxCreate), (vB x.q.keysOnly), (vB x.q.countOnly), (vB x.q.prev), (vB x.q.ignoreValue), (vB x.q.ignoreLease), x.q.cmps, x.q.then_, x.q.else_])) rfl H ?_)
 intro b2_ w3_ S5_ H4_
 have S6_ := Same.trans (Same.refl w) S5_
 refine sv (v := (vP none)) (x_assign rfl) ?_
 refine wn (hK1_ _ _ ?_)
 refine C_seq (fun _ hK7_ => ?_)
 refine A_start (S := fun w => Rd b2_ [(vI .i64 x.q.kind), (Value.string x.q.key), (Value.string x.q.end_), (Value.string x.q.value), (vI .i64 x.q.lease), (vI .i64 x.q.rev), (vI .i64 x.q.limit), (vI .i64 x.q.sortOrder), (vI .i64 x.q.sortTarget), (vI .i64 x.q.minMod), (vI .i64 x.q.maxMod), (vI .i64 x.q.minCreate), (vI .i64 x.q.maxCreate), (vB x.q.keysOnly), (vB x.q.countOnly), (vB x.q.prev), (vB x.q.ignoreValue), (vB x.q.ignoreLease), x.q.cmps, x.q.then_, x.q.else_] w ∧ Sub R (hp w)) (N := 33) foll rfl rfl ?_
 have H8_ := Holds.drew_ H4_
 have hq9_ := And.intro (Holds.rd H8_ 0 rfl) ((Holds.ro_at H8_ 1 rfl))
 refine A_tk 0 (v := (vP (some ⟨b2_, 1, none⟩))) rfl (by kernel_rfl) (fun w hS => by kernel_rfl) hq9_ ?_
 refine A_tk 1 (v := (Value.string x.q.key)) rfl (by kernel_rfl) (fun w hS => x_load1 rfl underlying9 rfl (hS.1 1 (Value.string x.q.key) rfl)) hq9_ ?_
 refine A_tk 3 (v := (vP (some ⟨b2_, 2, none⟩))) rfl (by kernel_rfl) (fun w hS => by kernel_rfl) hq9_ ?_
 refine A_tk 4 (v := (Value.string x.q.end_)) rfl (by kernel_rfl) (fun w hS => x_load1 rfl underlying9 rfl (hS.1 2 (Value.string x.q.end_) rfl)) hq9_ ?_
 refine A_tk 6 (v := (vP (some ⟨b2_, 6, none⟩))) rfl (by kernel_rfl) (fun w hS => by kernel_rfl) hq9_ ?_
 refine A_tk 7 (v := (vI .i64 x.q.limit)) rfl (by kernel_rfl) (fun w hS => x_load1 rfl underlying2 rfl (hS.1 6 (vI .i64 x.q.limit) rfl)) hq9_ ?_
 refine A_tk 8 (v := (vP (some ⟨b2_, 5, none⟩))) rfl (by kernel_rfl) (fun w hS => by kernel_rfl) hq9_ ?_
 refine A_tk 9 (v := (vI .i64 x.q.rev)) rfl (by kernel_rfl) (fun w hS => x_load1 rfl underlying2 rfl (hS.1 5 (vI .i64 x.q.rev) rfl)) hq9_ ?_
 refine A_tk 10 (v := (vP (some ⟨b2_, 7, none⟩))) rfl (by kernel_rfl) (fun w hS => by kernel_rfl) hq9_ ?_
 refine A_tk 11 (v := (vI .i64 x.q.sortOrder)) rfl (by kernel_rfl) (fun w hS => x_load1 rfl underlying3 rfl (hS.1 7 (vI .i64 x.q.sortOrder) rfl)) hq9_ ?_
 refine A_tk 13 (v := (vP (some ⟨b2_, 8, none⟩))) rfl (by kernel_rfl) (fun w hS => by kernel_rfl) hq9_ ?_
 refine A_tk 14 (v := (vI .i64 x.q.sortTarget)) rfl (by kernel_rfl) (fun w hS => x_load1 rfl underlying3 rfl (hS.1 8 (vI .i64 x.q.sortTarget) rfl)) hq9_ ?_
 refine A_tk 16 (v := (vP (some ⟨b2_, 15, none⟩))) rfl (by kernel_rfl) (fun w hS => by kernel_rfl) hq9_ ?_
 refine A_tk 17 (v := (vB x.q.prev)) rfl (by kernel_rfl) (fun w hS => x_load1 rfl underlying4 rfl (hS.1 15 (vB x.q.prev) rfl)) hq9_ ?_
 refine A_tk 18 (v := (vP (some ⟨b2_, 13, none⟩))) rfl (by kernel_rfl) (fun w hS => by kernel_rfl) hq9_ ?_
 refine A_tk 19 (v := (vB x.q.keysOnly)) rfl (by kernel_rfl) (fun w hS => x_load1 rfl underlying4 rfl (hS.1 13 (vB x.q.keysOnly) rfl)) hq9_ ?_
 refine A_tk 20 (v := (vP (some ⟨b2_, 14, none⟩))) rfl (by kernel_rfl) (fun w hS => by kernel_rfl) hq9_ ?_
 refine A_tk 21 (v := (vB x.q.countOnly)) rfl (by kernel_rfl) (fun w hS => x_load1 rfl underlying4 rfl (hS.1 14 (vB x.q.countOnly) rfl)) hq9_ ?_
 refine A_tk 22 (v := (vP (some ⟨b2_, 9, none⟩))) rfl (by kernel_rfl) (fun w hS => by kernel_rfl) hq9_ ?_
 refine A_tk 23 (v := (vI .i64 x.q.minMod)) rfl (by kernel_rfl) (fun w hS => x_load1 rfl underlying2 rfl (hS.1 9 (vI .i64 x.q.minMod) rfl)) hq9_ ?_
 refine A_tk 24 (v := (vP (some ⟨b2_, 10, none⟩))) rfl (by kernel_rfl) (fun w hS => by kernel_rfl) hq9_ ?_
 refine A_tk 25 (v := (vI .i64 x.q.maxMod)) rfl (by kernel_rfl) (fun w hS => x_load1 rfl underlying2 rfl (hS.1 10 (vI .i64 x.q.maxMod) rfl)) hq9_ ?_
 refine A_tk 26 (v := (vP (some ⟨b2_, 11, none⟩))) rfl (by kernel_rfl) (fun w hS => by kernel_rfl) hq9_ ?_
 refine A_tk 27 (v := (vI .i64 x.q.minCreate)) rfl (by kernel_rfl) (fun w hS => x_load1 rfl underlying2 rfl (hS.1 11 (vI .i64 x.q.minCreate) rfl)) hq9_ ?_
 refine A_tk 28 (v := (vP (some ⟨b2_, 12, none⟩))) rfl (by kernel_rfl) (fun w hS => by kernel_rfl) hq9_ ?_
 refine A_tk 29 (v := (vI .i64 x.q.maxCreate)) rfl (by kernel_rfl) (fun w hS => x_load1 rfl underlying2 rfl (hS.1 12 (vI .i64 x.q.maxCreate) rfl)) hq9_ ?_
 refine A_ready (i := 2) (rs := [5]) (by kernel_rfl) ?_
 refine AllR.cons ?_ ?_
 ·skip
  refine A_op (ls' := #[true, true, true, true, true, false, true, true, true, true, true, true, false, true, true, false, true, true, true, true, true, true, true, true, true, true, true, true, true, true, false, false, false]) rfl (by kernel_rfl) (T_s2b rfl underlying9 underlying122 underlying5 H8_ ?_)
  intro b10_ cp11_ w12_ S14_ hc15_ H13_
  have S16_ := Same.trans (Same.trans S6_ (Same.drew _)) S14_
  have H17_ := Holds.resl H13_ 0 rfl (byteCells_bytesV _ : byteCells x.q.key = bytesV (ints x.q.key)) rfl
  have H18_ := Holds.resl H17_ 0 rfl (rfl : bytesV (ints x.q.key) = bytesV (ints x.q.key)) ((ints_length _).symm : x.q.key.size = (List.length (ints x.q.key)))
  refine ⟨⟨Holds.rd H18_ 1 rfl, (Holds.ro_at H18_ 2 rfl)⟩, ?_⟩
  refine A_ready (i := 5) (rs := []) (by kernel_rfl) ?_
  refine AllR.cons ?_ AllR.nil
  have H23_ := ((Holds.bring H18_ 2 rfl) :)
  refine A_op (ls' := #[true, true, true, true, true, true, true, true, true, true, true, true, false, true, true, false, true, true, true, true, true, true, true, true, true, true, true, true, true, true, false, false, false]) rfl (by kernel_rfl) (T_call (al := [(Value.string x.q.end_)]) (pre := []) rfl rfl cb67 (ckBytes R x.q.end_) H23_ ?_)
  rintro v19_ p27_ w24_ ⟨a20_, m21_, c22_, rfl, rfl⟩ S26_ H25_
  have S28_ := Same.trans S16_ S26_
  refine ⟨⟨Holds.rd H25_ 2 rfl, (Holds.ro_at H25_ 0 rfl)⟩, ?_⟩
  refine A_ready (i := 12) (rs := []) (by kernel_rfl) ?_
  refine AllR.cons ?_ AllR.nil
  refine A_op (ls' := #[true, true, true, true, true, true, true, true, true, true, true, true, true, true, true, false, true, true, true, true, true, true, true, true, true, true, true, true, true, true, false, false, false]) rfl (by kernel_rfl) (T_call (al := [(vI .i64 x.q.sortOrder)]) (pre := []) rfl rfl cb68 (ckOrder R x.q.sortOrder) H25_ ?_)
  rintro v29_ p33_ w30_ ⟨rfl, rfl⟩ S32_ H31_
  have S34_ := Same.trans S28_ S32_
  refine ⟨⟨Holds.rd H31_ 2 rfl, (Holds.ro_at H31_ 0 rfl)⟩, ?_⟩
  refine A_ready (i := 15) (rs := []) (by kernel_rfl) ?_
  refine AllR.cons ?_ AllR.nil
  refine A_op (ls' := #[true, true, true, true, true, true, true, true, true, true, true, true, true, true, true, true, true, true, true, true, true, true, true, true, true, true, true, true, true, true, false, false, false]) rfl (by kernel_rfl) (T_call (al := [(vI .i64 x.q.sortTarget)]) (pre := []) rfl rfl cb68 (ckOrder R x.q.sortTarget) H31_ ?_)
  rintro v35_ p39_ w36_ ⟨rfl, rfl⟩ S38_ H37_
  have S40_ := Same.trans S34_ S38_
  refine ⟨⟨Holds.rd H37_ 2 rfl, (Holds.ro_at H37_ 0 rfl)⟩, ?_⟩
  have hq41_ := And.intro (Holds.rd H37_ 2 rfl) ((Holds.ro_at H37_ 0 rfl))
  refine A_tk 30 (v := (vA #[(vS (some ⟨b10_, 0, none⟩) x.q.key.size cp11_), (vS a20_ m21_ c22_), (vI .i64 x.q.limit), (vI .i64 x.q.rev), (vI .i32 (ord32 x.q.sortOrder)), (vI .i32 (ord32 x.q.sortTarget)), (vB x.q.prev), (vB x.q.keysOnly), (vB x.q.countOnly), (vI .i64 x.q.minMod), (vI .i64 x.q.maxMod), (vI .i64 x.q.minCreate), (vI .i64 x.q.maxCreate)])) rfl (by kernel_rfl) (fun w hS => by kernel_rfl) hq41_ ?_
  refine A_ready (i := 31) (rs := []) (by kernel_rfl) ?_
  refine AllR.cons ?_ AllR.nil
  refine A_op (ls' := #[true, true, true, true, true, true, true, true, true, true, true, true, true, true, true, true, true, true, true, true, true, true, true, true, true, true, true, true, true, true, true, true, false]) rfl (by kernel_rfl) (T_box (v := (vA #[(vS (some ⟨b10_, 0, none⟩) x.q.key.size cp11_), (vS a20_ m21_ c22_), (vI .i64 x.q.limit), (vI .i64 x.q.rev), (vI .i32 (ord32 x.q.sortOrder)), (vI .i32 (ord32 x.q.sortTarget)), (vB x.q.prev), (vB x.q.keysOnly), (vB x.q.countOnly), (vI .i64 x.q.minMod), (vI .i64 x.q.maxMod), (vI .i64 x.q.minCreate), (vI .i64 x.q.maxCreate)])) rfl H37_ ?_)
  intro b42_ w43_ S45_ H44_
  have S46_ := Same.trans S40_ S45_
  refine ⟨⟨Holds.rd H44_ 3 rfl, (Holds.ro_at H44_ 1 rfl)⟩, ?_⟩
  have hq47_ := And.intro (Holds.rd H44_ 3 rfl) ((Holds.ro_at H44_ 1 rfl))
  refine A_tk 32 (v := (vP (some ⟨b42_, 0, none⟩))) rfl (by kernel_rfl) (fun w hS => x_assign rfl) hq47_ ?_
  refine A_done (by kernel_rfl) ?_
  refine (X_then (hK7_ _ _ ?_))
  refine C_ret ?_
  refine R_any (v := (vP (some ⟨b42_, 0, none⟩))) (run_results1 rfl rfl) ?_
  have H48_ := ((Holds.bring (Holds.bring H44_ 2 rfl) 2 rfl) :)
  obtain ⟨R49_, hs50_, ⟨R51_, ha52_, hs53_⟩, H54_⟩ := Holds.gift H48_
  have hr55_ : RS R49_ 1 (vS (some ⟨b10_, 0, none⟩) x.q.key.size cp11_) (List.length (ints x.q.key)) (bytesV (ints x.q.key)) := (sl_RS ha52_ (Sub.rfl' _)).mono hs53_
  obtain ⟨R56_, hs57_, ⟨R58_, ha59_, hs60_⟩, H61_⟩ := Holds.gift H54_
  have hz_R_R56_ := Sub.trans' hs50_ hs57_
  have hr62_ : RC R56_ b42_ 0 [(vS (some ⟨b10_, 0, none⟩) x.q.key.size cp11_), (vS a20_ m21_ c22_), (vI .i64 x.q.limit), (vI .i64 x.q.rev), (vI .i32 (ord32 x.q.sortOrder)), (vI .i32 (ord32 x.q.sortTarget)), (vB x.q.prev), (vB x.q.keysOnly), (vB x.q.countOnly), (vI .i64 x.q.minMod), (vI .i64 x.q.maxMod), (vI .i64 x.q.minCreate), (vI .i64 x.q.maxCreate)] := (cl_RC ha59_ (Sub.rfl' _)).mono hs60_
  have H63_ := Holds.pkF H61_ [0] 1
  exact ⟨R56_, _, _, rfl, hz_R_R56_, ⟨b42_, rfl, rfl, (⟨_, _, _, _, (RS.mono hr55_ hs57_), hr62_.take 6⟩)⟩, S46_, H63_⟩
 refine AllR.cons ?_ AllR.nil
 have H68_ := ((Holds.bring H8_ 1 rfl) :)
 refine A_op (ls' := #[true, true, false, true, true, true, true, true, true, true, true, true, false, true, true, false, true, true, true, true, true, true, true, true, true, true, true, true, true, true, false, false, false]) rfl (by kernel_rfl) (T_call (al := [(Value.string x.q.end_)]) (pre := []) rfl rfl cb67 (ckBytes R x.q.end_) H68_ ?_)
 rintro v64_ p72_ w69_ ⟨a65_, m66_, c67_, rfl, rfl⟩ S71_ H70_
 have S73_ := Same.trans (Same.trans S6_ (Same.drew _)) S71_
 refine ⟨⟨Holds.rd H70_ 1 rfl, (Holds.ro_at H70_ 0 rfl)⟩, ?_⟩
 refine A_ready (i := 2) (rs := [12]) (by kernel_rfl) ?_
 refine AllR.cons ?_ ?_
 ·skip
  refine A_op (ls' := #[true, true, true, true, true, true, true, true, true, true, true, true, false, true, true, false, true, true, true, true, true, true, true, true, true, true, true, true, true, true, false, false, false]) rfl (by kernel_rfl) (T_s2b rfl underlying9 underlying122 underlying5 H70_ ?_)
  intro b74_ cp75_ w76_ S78_ hc79_ H77_
  have S80_ := Same.trans S73_ S78_
  have H81_ := Holds.resl H77_ 0 rfl (byteCells_bytesV _ : byteCells x.q.key = bytesV (ints x.q.key)) rfl
  have H82_ := Holds.resl H81_ 0 rfl (rfl : bytesV (ints x.q.key) = bytesV (ints x.q.key)) ((ints_length _).symm : x.q.key.size = (List.length (ints x.q.key)))
  refine ⟨⟨Holds.rd H82_ 2 rfl, (Holds.ro_at H82_ 1 rfl)⟩, ?_⟩
  refine A_ready (i := 12) (rs := []) (by kernel_rfl) ?_
  refine AllR.cons ?_ AllR.nil
  have H84_ := ((Holds.bring H82_ 1 rfl) :)
  refine A_op (ls' := #[true, true, true, true, true, true, true, true, true, true, true, true, true, true, true, false, true, true, true, true, true, true, true, true, true, true, true, true, true, true, false, false, false]) rfl (by kernel_rfl) (T_call (al := [(vI .i64 x.q.sortOrder)]) (pre := []) rfl rfl cb68 (ckOrder R x.q.sortOrder) H84_ ?_)
  rintro v83_ p88_ w85_ ⟨rfl, rfl⟩ S87_ H86_
  have S89_ := Same.trans S80_ S87_
  refine ⟨⟨Holds.rd H86_ 2 rfl, (Holds.ro_at H86_ 0 rfl)⟩, ?_⟩
  refine A_ready (i := 15) (rs := []) (by kernel_rfl) ?_
  refine AllR.cons ?_ AllR.nil
  refine A_op (ls' := #[true, true, true, true, true, true, true, true, true, true, true, true, true, true, true, true, true, true, true, true, true, true, true, true, true, true, true, true, true, true, false, false, false]) rfl (by kernel_rfl) (T_call (al := [(vI .i64 x.q.sortTarget)]) (pre := []) rfl rfl cb68 (ckOrder R x.q.sortTarget) H86_ ?_)
  rintro v90_ p94_ w91_ ⟨rfl, rfl⟩ S93_ H92_
  have S95_ := Same.trans S89_ S93_
  refine ⟨⟨Holds.rd H92_ 2 rfl, (Holds.ro_at H92_ 0 rfl)⟩, ?_⟩
  have hq96_ := And.intro (Holds.rd H92_ 2 rfl) ((Holds.ro_at H92_ 0 rfl))
  refine A_tk 30 (v := (vA #[(vS (some ⟨b74_, 0, none⟩) x.q.key.size cp75_), (vS a65_ m66_ c67_), (vI .i64 x.q.limit), (vI .i64 x.q.rev), (vI .i32 (ord32 x.q.sortOrder)), (vI .i32 (ord32 x.q.sortTarget)), (vB x.q.prev), (vB x.q.keysOnly), (vB x.q.countOnly), (vI .i64 x.q.minMod), (vI .i64 x.q.maxMod), (vI .i64 x.q.minCreate), (vI .i64 x.q.maxCreate)])) rfl (by kernel_rfl) (fun w hS => by kernel_rfl) hq96_ ?_
  refine A_ready (i := 31) (rs := []) (by kernel_rfl) ?_
  refine AllR.cons ?_ AllR.nil
  refine A_op (ls' := #[true, true, true, true, true, true, true, true, true, true, true, true, true, true, true, true, true, true, true, true, true, true, true, true, true, true, true, true, true, true, true, true, false]) rfl (by kernel_rfl) (T_box (v := (vA #[(vS (some ⟨b74_, 0, none⟩) x.q.key.size cp75_), (vS a65_ m66_ c67_), (vI .i64 x.q.limit), (vI .i64 x.q.rev), (vI .i32 (ord32 x.q.sortOrder)), (vI .i32 (ord32 x.q.sortTarget)), (vB x.q.prev), (vB x.q.keysOnly), (vB x.q.countOnly), (vI .i64 x.q.minMod), (vI .i64 x.q.maxMod), (vI .i64 x.q.minCreate), (vI .i64 x.q.maxCreate)])) rfl H92_ ?_)
  intro b97_ w98_ S100_ H99_
  have S101_ := Same.trans S95_ S100_
  refine ⟨⟨Holds.rd H99_ 3 rfl, (Holds.ro_at H99_ 1 rfl)⟩, ?_⟩
  have hq102_ := And.intro (Holds.rd H99_ 3 rfl) ((Holds.ro_at H99_ 1 rfl))
  refine A_tk 32 (v := (vP (some ⟨b97_, 0, none⟩))) rfl (by kernel_rfl) (fun w hS => x_assign rfl) hq102_ ?_
  refine A_done (by kernel_rfl) ?_
  refine (X_then (hK7_ _ _ ?_))
  refine C_ret ?_
  refine R_any (v := (vP (some ⟨b97_, 0, none⟩))) (run_results1 rfl rfl) ?_
  have H103_ := ((Holds.bring (Holds.bring H99_ 2 rfl) 2 rfl) :)
  obtain ⟨R104_, hs105_, ⟨R106_, ha107_, hs108_⟩, H109_⟩ := Holds.gift H103_
  have hr110_ : RS R104_ 1 (vS (some ⟨b74_, 0, none⟩) x.q.key.size cp75_) (List.length (ints x.q.key)) (bytesV (ints x.q.key)) := (sl_RS ha107_ (Sub.rfl' _)).mono hs108_
  obtain ⟨R111_, hs112_, ⟨R113_, ha114_, hs115_⟩, H116_⟩ := Holds.gift H109_
  have hz_R_R111_ := Sub.trans' hs105_ hs112_
  have hr117_ : RC R111_ b97_ 0 [(vS (some ⟨b74_, 0, none⟩) x.q.key.size cp75_), (vS a65_ m66_ c67_), (vI .i64 x.q.limit), (vI .i64 x.q.rev), (vI .i32 (ord32 x.q.sortOrder)), (vI .i32 (ord32 x.q.sortTarget)), (vB x.q.prev), (vB x.q.keysOnly), (vB x.q.countOnly), (vI .i64 x.q.minMod), (vI .i64 x.q.maxMod), (vI .i64 x.q.minCreate), (vI .i64 x.q.maxCreate)] := (cl_RC ha114_ (Sub.rfl' _)).mono hs115_
  have H118_ := Holds.pkF H116_ [0] 1
  exact ⟨R111_, _, _, rfl, hz_R_R111_, ⟨b97_, rfl, rfl, (⟨_, _, _, _, (RS.mono hr110_ hs112_), hr117_.take 6⟩)⟩, S101_, H118_⟩
 refine AllR.cons ?_ AllR.nil
 refine A_op (ls' := #[true, true, false, true, true, true, true, true, true, true, true, true, true, true, true, false, true, true, true, true, true, true, true, true, true, true, true, true, true, true, false, false, false]) rfl (by kernel_rfl) (T_call (al := [(vI .i64 x.q.sortOrder)]) (pre := []) rfl rfl cb68 (ckOrder R x.q.sortOrder) H70_ ?_)
 rintro v119_ p123_ w120_ ⟨rfl, rfl⟩ S122_ H121_
 have S124_ := Same.trans S73_ S122_
 refine ⟨⟨Holds.rd H121_ 1 rfl, (Holds.ro_at H121_ 0 rfl)⟩, ?_⟩
 refine A_ready (i := 2) (rs := [15]) (by kernel_rfl) ?_
 refine AllR.cons ?_ ?_
 ·skip
  refine A_op (ls' := #[true, true, true, true, true, true, true, true, true, true, true, true, true, true, true, false, true, true, true, true, true, true, true, true, true, true, true, true, true, true, false, false, false]) rfl (by kernel_rfl) (T_s2b rfl underlying9 underlying122 underlying5 H121_ ?_)
  intro b125_ cp126_ w127_ S129_ hc130_ H128_
  have S131_ := Same.trans S124_ S129_
  have H132_ := Holds.resl H128_ 0 rfl (byteCells_bytesV _ : byteCells x.q.key = bytesV (ints x.q.key)) rfl
  have H133_ := Holds.resl H132_ 0 rfl (rfl : bytesV (ints x.q.key) = bytesV (ints x.q.key)) ((ints_length _).symm : x.q.key.size = (List.length (ints x.q.key)))
  refine ⟨⟨Holds.rd H133_ 2 rfl, (Holds.ro_at H133_ 1 rfl)⟩, ?_⟩
  refine A_ready (i := 15) (rs := []) (by kernel_rfl) ?_
  refine AllR.cons ?_ AllR.nil
  have H135_ := ((Holds.bring H133_ 1 rfl) :)
  refine A_op (ls' := #[true, true, true, true, true, true, true, true, true, true, true, true, true, true, true, true, true, true, true, true, true, true, true, true, true, true, true, true, true, true, false, false, false]) rfl (by kernel_rfl) (T_call (al := [(vI .i64 x.q.sortTarget)]) (pre := []) rfl rfl cb68 (ckOrder R x.q.sortTarget) H135_ ?_)
  rintro v134_ p139_ w136_ ⟨rfl, rfl⟩ S138_ H137_
  have S140_ := Same.trans S131_ S138_
  refine ⟨⟨Holds.rd H137_ 2 rfl, (Holds.ro_at H137_ 0 rfl)⟩, ?_⟩
  have hq141_ := And.intro (Holds.rd H137_ 2 rfl) ((Holds.ro_at H137_ 0 rfl))
  refine A_tk 30 (v := (vA #[(vS (some ⟨b125_, 0, none⟩) x.q.key.size cp126_), (vS a65_ m66_ c67_), (vI .i64 x.q.limit), (vI .i64 x.q.rev), (vI .i32 (ord32 x.q.sortOrder)), (vI .i32 (ord32 x.q.sortTarget)), (vB x.q.prev), (vB x.q.keysOnly), (vB x.q.countOnly), (vI .i64 x.q.minMod), (vI .i64 x.q.maxMod), (vI .i64 x.q.minCreate), (vI .i64 x.q.maxCreate)])) rfl (by kernel_rfl) (fun w hS => by kernel_rfl) hq141_ ?_
  refine A_ready (i := 31) (rs := []) (by kernel_rfl) ?_
  refine AllR.cons ?_ AllR.nil
  refine A_op (ls' := #[true, true, true, true, true, true, true, true, true, true, true, true, true, true, true, true, true, true, true, true, true, true, true, true, true, true, true, true, true, true, true, true, false]) rfl (by kernel_rfl) (T_box (v := (vA #[(vS (some ⟨b125_, 0, none⟩) x.q.key.size cp126_), (vS a65_ m66_ c67_), (vI .i64 x.q.limit), (vI .i64 x.q.rev), (vI .i32 (ord32 x.q.sortOrder)), (vI .i32 (ord32 x.q.sortTarget)), (vB x.q.prev), (vB x.q.keysOnly), (vB x.q.countOnly), (vI .i64 x.q.minMod), (vI .i64 x.q.maxMod), (vI .i64 x.q.minCreate), (vI .i64 x.q.maxCreate)])) rfl H137_ ?_)
  intro b142_ w143_ S145_ H144_
  have S146_ := Same.trans S140_ S145_
  refine ⟨⟨Holds.rd H144_ 3 rfl, (Holds.ro_at H144_ 1 rfl)⟩, ?_⟩
  have hq147_ := And.intro (Holds.rd H144_ 3 rfl) ((Holds.ro_at H144_ 1 rfl))
  refine A_tk 32 (v := (vP (some ⟨b142_, 0, none⟩))) rfl (by kernel_rfl) (fun w hS => x_assign rfl) hq147_ ?_
  refine A_done (by kernel_rfl) ?_
  refine (X_then (hK7_ _ _ ?_))
  refine C_ret ?_
  refine R_any (v := (vP (some ⟨b142_, 0, none⟩))) (run_results1 rfl rfl) ?_
  have H148_ := ((Holds.bring (Holds.bring H144_ 2 rfl) 2 rfl) :)
  obtain ⟨R149_, hs150_, ⟨R151_, ha152_, hs153_⟩, H154_⟩ := Holds.gift H148_
  have hr155_ : RS R149_ 1 (vS (some ⟨b125_, 0, none⟩) x.q.key.size cp126_) (List.length (ints x.q.key)) (bytesV (ints x.q.key)) := (sl_RS ha152_ (Sub.rfl' _)).mono hs153_
  obtain ⟨R156_, hs157_, ⟨R158_, ha159_, hs160_⟩, H161_⟩ := Holds.gift H154_
  have hz_R_R156_ := Sub.trans' hs150_ hs157_
  have hr162_ : RC R156_ b142_ 0 [(vS (some ⟨b125_, 0, none⟩) x.q.key.size cp126_), (vS a65_ m66_ c67_), (vI .i64 x.q.limit), (vI .i64 x.q.rev), (vI .i32 (ord32 x.q.sortOrder)), (vI .i32 (ord32 x.q.sortTarget)), (vB x.q.prev), (vB x.q.keysOnly), (vB x.q.countOnly), (vI .i64 x.q.minMod), (vI .i64 x.q.maxMod), (vI .i64 x.q.minCreate), (vI .i64 x.q.maxCreate)] := (cl_RC ha159_ (Sub.rfl' _)).mono hs160_
  have H163_ := Holds.pkF H161_ [0] 1
  exact ⟨R156_, _, _, rfl, hz_R_R156_, ⟨b142_, rfl, rfl, (⟨_, _, _, _, (RS.mono hr155_ hs157_), hr162_.take 6⟩)⟩, S146_, H163_⟩
 refine AllR.cons ?_ AllR.nil
 refine A_op (ls' := #[true, true, false, true, true, true, true, true, true, true, true, true, true, true, true, true, true, true, true, true, true, true, true, true, true, true, true, true, true, true, false, false, false]) rfl (by kernel_rfl) (T_call (al := [(vI .i64 x.q.sortTarget)]) (pre := []) rfl rfl cb68 (ckOrder R x.q.sortTarget) H121_ ?_)
 rintro v164_ p168_ w165_ ⟨rfl, rfl⟩ S167_ H166_
 have S169_ := Same.trans S124_ S167_
 refine ⟨⟨Holds.rd H166_ 1 rfl, (Holds.ro_at H166_ 0 rfl)⟩, ?_⟩
 refine A_ready (i := 2) (rs := []) (by kernel_rfl) ?_
 refine AllR.cons ?_ AllR.nil
 refine A_op (ls' := #[true, true, true, true, true, true, true, true, true, true, true, true, true, true, true, true, true, true, true, true, true, true, true, true, true, true, true, true, true, true, false, false, false]) rfl (by kernel_rfl) (T_s2b rfl underlying9 underlying122 underlying5 H166_ ?_)
 intro b170_ cp171_ w172_ S174_ hc175_ H173_
 have S176_ := Same.trans S169_ S174_
 have H177_ := Holds.resl H173_ 0 rfl (byteCells_bytesV _ : byteCells x.q.key = bytesV (ints x.q.key)) rfl
 have H178_ := Holds.resl H177_ 0 rfl (rfl : bytesV (ints x.q.key) = bytesV (ints x.q.key)) ((ints_length _).symm : x.q.key.size = (List.length (ints x.q.key)))
 refine ⟨⟨Holds.rd H178_ 2 rfl, (Holds.ro_at H178_ 1 rfl)⟩, ?_⟩
 have hq179_ := And.intro (Holds.rd H178_ 2 rfl) ((Holds.ro_at H178_ 1 rfl))
 refine A_tk 30 (v := (vA #[(vS (some ⟨b170_, 0, none⟩) x.q.key.size cp171_), (vS a65_ m66_ c67_), (vI .i64 x.q.limit), (vI .i64 x.q.rev), (vI .i32 (ord32 x.q.sortOrder)), (vI .i32 (ord32 x.q.sortTarget)), (vB x.q.prev), (vB x.q.keysOnly), (vB x.q.countOnly), (vI .i64 x.q.minMod), (vI .i64 x.q.maxMod), (vI .i64 x.q.minCreate), (vI .i64 x.q.maxCreate)])) rfl (by kernel_rfl) (fun w hS => by kernel_rfl) hq179_ ?_
 refine A_ready (i := 31) (rs := []) (by kernel_rfl) ?_
 refine AllR.cons ?_ AllR.nil
 refine A_op (ls' := #[true, true, true, true, true, true, true, true, true, true, true, true, true, true, true, true, true, true, true, true, true, true, true, true, true, true, true, true, true, true, true, true, false]) rfl (by kernel_rfl) (T_box (v := (vA #[(vS (some ⟨b170_, 0, none⟩) x.q.key.size cp171_), (vS a65_ m66_ c67_), (vI .i64 x.q.limit), (vI .i64 x.q.rev), (vI .i32 (ord32 x.q.sortOrder)), (vI .i32 (ord32 x.q.sortTarget)), (vB x.q.prev), (vB x.q.keysOnly), (vB x.q.countOnly), (vI .i64 x.q.minMod), (vI .i64 x.q.maxMod), (vI .i64 x.q.minCreate), (vI .i64 x.q.maxCreate)])) rfl H178_ ?_)
 intro b180_ w181_ S183_ H182_
 have S184_ := Same.trans S176_ S183_
 refine ⟨⟨Holds.rd H182_ 3 rfl, (Holds.ro_at H182_ 2 rfl)⟩, ?_⟩
 have hq185_ := And.intro (Holds.rd H182_ 3 rfl) ((Holds.ro_at H182_ 2 rfl))
 refine A_tk 32 (v := (vP (some ⟨b180_, 0, none⟩))) rfl (by kernel_rfl) (fun w hS => x_assign rfl) hq185_ ?_
 refine A_done (by kernel_rfl) ?_
 refine (X_then (hK7_ _ _ ?_))
 refine C_ret ?_
 refine R_any (v := (vP (some ⟨b180_, 0, none⟩))) (run_results1 rfl rfl) ?_
 have H186_ := ((Holds.bring (Holds.bring H182_ 1 rfl) 2 rfl) :)
 obtain ⟨R187_, hs188_, ⟨R189_, ha190_, hs191_⟩, H192_⟩ := Holds.gift H186_
 have hr193_ : RS R187_ 1 (vS (some ⟨b170_, 0, none⟩) x.q.key.size cp171_) (List.length (ints x.q.key)) (bytesV (ints x.q.key)) := (sl_RS ha190_ (Sub.rfl' _)).mono hs191_
 obtain ⟨R194_, hs195_, ⟨R196_, ha197_, hs198_⟩, H199_⟩ := Holds.gift H192_
 have hz_R_R194_ := Sub.trans' hs188_ hs195_
 have hr200_ : RC R194_ b180_ 0 [(vS (some ⟨b170_, 0, none⟩) x.q.key.size cp171_), (vS a65_ m66_ c67_), (vI .i64 x.q.limit), (vI .i64 x.q.rev), (vI .i32 (ord32 x.q.sortOrder)), (vI .i32 (ord32 x.q.sortTarget)), (vB x.q.prev), (vB x.q.keysOnly), (vB x.q.countOnly), (vI .i64 x.q.minMod), (vI .i64 x.q.maxMod), (vI .i64 x.q.minCreate), (vI .i64 x.q.maxCreate)] := (cl_RC ha197_ (Sub.rfl' _)).mono hs198_
 have H201_ := Holds.pkF H199_ [0] 1
 exact ⟨R194_, _, _, rfl, hz_R_R194_, ⟨b180_, rfl, rfl, (⟨_, _, _, _, (RS.mono hr193_ hs195_), hr200_.take 6⟩)⟩, S184_, H201_⟩
end Go.Proofs.Ytlnihndjepjagaa
