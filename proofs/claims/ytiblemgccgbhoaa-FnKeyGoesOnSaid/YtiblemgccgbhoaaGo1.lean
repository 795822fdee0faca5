/- Words, and proved steps, on which the proof leans. -/
import Derived.WalkKit
import Derived.WalkSpells
import Derived.WalkLawsBesides
import Derived.KernelRfl
import Derived.IntWalk
import Derived.LoopN
import Derived.OrdersHeld
import Derived.Deep.AppendSrc
import Derived.Lib.ConvBytes
import Derived.Recover
import Derived.Defers
import Derived.ProofKit
import Derived.SizedLaws
import Derived.Carry
import Derived.Laws.StructEq
import Derived.Test.YtiblemgccgbhoaaProg
import Derived.Laws.IdiomCopy
import Derived.Maps.Keyed
import Derived.MapKept
import Derived.Lib.Bytealg
import Derived.Lib.AppendZerosOnto
import Derived.Lib.Overlaps
namespace Go.Proofs.Ytiblemgccgbhoaa.Gw
open Go Go.RowKit

theorem cast1 {α : Sort _} {P : α → Prop} {c c' : α} (h : c = c') (x : P c) : P c' := h ▸ x
/-! ### Pieces of a heap -/
abbrev HP := Nat → Option Obj
abbrev SP := HP → Prop
def Sub (h g : HP) : Prop := ∀ b o, h b = some o → g b = some o
def Dis (h g : HP) : Prop := ∀ b, h b = none ∨ g b = none
def un (h k : HP) : HP := fun b => match h b with | some o => some o | none => k b

theorem Sub.rfl' (h : HP) : Sub h h := fun _ _ e => e
theorem Sub.trans' {a b c : HP} (h : Sub a b) (k : Sub b c) : Sub a c := fun x o e => k x o (h x o e)
theorem Sub.un_left (h k : HP) : Sub h (un h k) := fun b o e => by simp [un, e]
theorem Sub.un_right {h k : HP} (d : Dis h k) : Sub k (un h k) := fun b o e => by
  rcases d b with d | d
  · simp [un, d, e]
  · rw [d] at e; cases e
theorem Sub.un_lub {h k g : HP} (a : Sub h g) (b : Sub k g) : Sub (un h k) g := fun x o e => by
  unfold un at e
  cases hx : h x with
  | none => rw [hx] at e; exact b x o e
  | some y => rw [hx] at e; cases e; exact a x _ hx
theorem Dis.symm {h k : HP} (d : Dis h k) : Dis k h := fun b => (d b).symm
theorem Dis.sub_left {h h' k : HP} (d : Dis h k) (s : Sub h' h) : Dis h' k := fun b => by
  rcases d b with e | e
  · left
    cases hx : h' b with
    | none => rfl
    | some o => rw [s b o hx] at e; cases e
  · exact .inr e
theorem Dis.sub_right {h k k' : HP} (d : Dis h k) (s : Sub k' k) : Dis h k' := (d.symm.sub_left s).symm
theorem Dis.un_left {h k g : HP} (a : Dis h g) (b : Dis k g) : Dis (un h k) g := fun x => by
  rcases a x with e | e
  · rcases b x with e' | e'
    · left; simp [un, e, e']
    · exact .inr e'
  · exact .inr e

def Sat : List SP → HP → Prop
  | [], _ => True
  | A :: l, g => ∃ h k, Sub h g ∧ Sub k g ∧ Dis h k ∧ A h ∧ Sat l k

theorem Sat.mono {l : List SP} {g g' : HP} (s : Sub g g') (h : Sat l g) : Sat l g' := by
  cases l with
  | nil => trivial
  | cons A l => obtain ⟨h, k, a, b, d, e, f⟩ := h; exact ⟨h, k, a.trans' s, b.trans' s, d, e, f⟩
theorem Sat.swap {A B : SP} {l : List SP} {g : HP} (h : Sat (A :: B :: l) g) : Sat (B :: A :: l) g := by
  obtain ⟨h1, k1, s1, t1, d1, a1, h2, k2, s2, t2, d2, a2, r⟩ := h
  refine ⟨h2, un h1 k2, s2.trans' t1, Sub.un_lub s1 (t2.trans' t1), ?_, a2, h1, k2, Sub.un_left _ _, Sub.un_right (d1.sub_right t2), d1.sub_right t2, a1, r⟩
  exact (Dis.un_left (d1.sub_right s2) d2.symm).symm
theorem Sat.tail {A : SP} {l : List SP} {g : HP} (h : Sat (A :: l) g) : Sat l g := by
  obtain ⟨_, k, _, t, _, _, r⟩ := h
  exact r.mono t
theorem Sat.cons_map {A : SP} {l l' : List SP} (f : ∀ g, Sat l g → Sat l' g) {g : HP} (h : Sat (A :: l) g) : Sat (A :: l') g := by
  obtain ⟨h1, k, s, t, d, a, r⟩ := h
  exact ⟨h1, k, s, t, d, a, f k r⟩
theorem Sat.head_map {A B : SP} {l : List SP} (f : ∀ h, A h → B h) {g : HP} (h : Sat (A :: l) g) : Sat (B :: l) g := by
  obtain ⟨h1, k, s, t, d, a, r⟩ := h
  exact ⟨h1, k, s, t, d, f _ a, r⟩
theorem Sat.bring {l : List SP} : ∀ (i : Nat) {A : SP} {g : HP}, l[i]? = some A → Sat l g → Sat (A :: l.eraseIdx i) g := by
  induction l with
  | nil => intro i A g hi; simp at hi
  | cons B l ih =>
    intro i A g hi h
    cases i with
    | zero => simp at hi; subst hi; exact h
    | succ i =>
      have hi' : l[i]? = some A := by simpa using hi
      exact Sat.swap (Sat.cons_map (fun g' h' => ih i hi' h') h)
theorem Sat.back {l : List SP} : ∀ (i : Nat) {A : SP} {g : HP}, l[i]? = some A → Sat (A :: l.eraseIdx i) g → Sat l g := by
  induction l with
  | nil => intro i A g hi; simp at hi
  | cons B l ih =>
    intro i A g hi h
    cases i with
    | zero => simp at hi; subst hi; exact h
    | succ i =>
      have hi' : l[i]? = some A := by simpa using hi
      exact Sat.cons_map (fun g' h' => ih i hi' h') (Sat.swap h)
theorem Sat.erase {l : List SP} (i : Nat) {g : HP} (h : Sat l g) : Sat (l.eraseIdx i) g := by
  rcases Nat.lt_or_ge i l.length with hi | hi
  · exact (Sat.bring i (List.getElem?_eq_getElem hi) h).tail
  · rw [List.eraseIdx_of_length_le hi]; exact h
theorem Sat.set {l : List SP} (i : Nat) {A B : SP} (hi : l[i]? = some A) {g g' : HP} (h : Sat l g)
    (f : ∀ h k, Sub h g → Sub k g → Dis h k → A h → ∃ h', Sub h' g' ∧ Sub k g' ∧ Dis h' k ∧ B h') : Sat (l.set i B) g' := by
  obtain ⟨h1, k, s, t, d, a, r⟩ := Sat.bring i hi h
  obtain ⟨h', s', t', d', b⟩ := f h1 k s t d a
  have hl : i < l.length := by
    rcases Nat.lt_or_ge i l.length with x | x
    · exact x
    · rw [List.getElem?_eq_none x] at hi; cases hi
  refine Sat.back i (A := B) (by simp [hl]) ?_
  have he : (l.set i B).eraseIdx i = l.eraseIdx i := by
    rw [List.eraseIdx_set_eq]
  rw [he]
  exact ⟨h', k, s', t', d', b, r⟩
theorem Sat.at {l : List SP} (i : Nat) {A : SP} (hi : l[i]? = some A) {g : HP} (h : Sat l g) : ∃ h', Sub h' g ∧ A h' := by
  obtain ⟨h1, _, s, _, _, a, _⟩ := Sat.bring i hi h
  exact ⟨h1, s, a⟩
theorem Sat.append {l m : List SP} {g : HP} : Sat (l ++ m) g ↔ ∃ h k, Sub h g ∧ Sub k g ∧ Dis h k ∧ Sat l h ∧ Sat m k := by
  induction l generalizing g with
  | nil =>
    constructor
    · intro h
      exact ⟨(fun _ => none), g, (fun _ _ e => by cases e), Sub.rfl' g, (fun _ => Or.inl rfl), trivial, h⟩
    · rintro ⟨_, k, _, t, _, _, h⟩
      exact h.mono t
  | cons A l ih =>
    constructor
    · rintro ⟨h1, k1, s, t, d, a, r⟩
      obtain ⟨h2, k2, s2, t2, d2, r1, r2⟩ := ih.1 r
      refine ⟨un h1 h2, k2, Sub.un_lub s (s2.trans' t), t2.trans' t, Dis.un_left (d.sub_right t2) d2, ?_, r2⟩
      exact ⟨h1, h2, Sub.un_left _ _, Sub.un_right (d.sub_right s2), d.sub_right s2, a, r1⟩
    · rintro ⟨h, k, s, t, d, ⟨h1, h2, s1, s2, d1, a, r1⟩, r2⟩
      refine ⟨h1, un h2 k, s1.trans' s, Sub.un_lub (s2.trans' s) t, ?_, a, ih.2 ⟨h2, k, Sub.un_left _ _, Sub.un_right (d.sub_left s2), d.sub_left s2, r1, r2⟩⟩
      exact (Dis.un_left d1.symm ((d.sub_left s1).symm)).symm

/-! ### Worlds -/
def hp (w : World) : HP := fun b => w.heap[b]?
def Holds (w : World) (l : List SP) : Prop := Sat l (hp w)
structure Same (w w' : World) : Prop where
  os : w'.os = w.os
  tape : w'.tape = w.tape
  output : w'.output = w.output
theorem Same.refl (w : World) : Same w w := ⟨rfl, rfl, rfl⟩
theorem Same.trans {a b c : World} (h : Same a b) (k : Same b c) : Same a c := ⟨k.os.trans h.os, k.tape.trans h.tape, k.output.trans h.output⟩
theorem Same.alloc (w : World) (o : Obj) : Same w (w.alloc o) := ⟨rfl, rfl, rfl⟩
theorem Same.setCell (w : World) (a : Addr) (v : Value) : Same w (w.setCell a v) := ⟨rfl, rfl, rfl⟩
theorem Same.drew (w : World) : Same w w.drew := ⟨rfl, rfl, rfl⟩

/-- Block b is a row of cells of element type T, which hold cs; none of them is frozen. -/
def cl (b : Nat) (T : TypeId) (cs : List Value) : SP := fun h => ∃ fr : Nat × Nat, h b = some (.cells cs.toArray T fr) ∧ ∀ i, i < cs.length → ¬ (fr.1 ≤ i ∧ i < fr.2)
/-- Block b is this object. -/
def ob (b : Nat) (o : Obj) : SP := fun h => h b = some o
/-- What is only read. -/
def ro (R : HP) : SP := fun h => Sub R h
theorem Holds.bring {w : World} {l : List SP} (h : Holds w l) (i : Nat) {A : SP} (hi : l[i]? = some A) : Holds w (A :: l.eraseIdx i) := Sat.bring i hi h
theorem Holds.erase {w : World} {l : List SP} (h : Holds w l) (i : Nat) : Holds w (l.eraseIdx i) := Sat.erase i h
theorem Holds.tail {w : World} {A : SP} {l : List SP} (h : Holds w (A :: l)) : Holds w l := Sat.tail h
theorem Holds.drew {w : World} {l : List SP} (h : Holds w l) : Holds w.drew l := h
theorem Holds.cl_block {w : World} {l : List SP} (h : Holds w l) (i : Nat) {b : Nat} {T : TypeId} {cs : List Value} (hi : l[i]? = some (cl b T cs)) :
    ∃ fr : Nat × Nat, w.heap[b]? = some (.cells cs.toArray T fr) ∧ ∀ i, i < cs.length → ¬ (fr.1 ≤ i ∧ i < fr.2) := by
  obtain ⟨h', s, fr, e, hf⟩ := Sat.at i hi h
  exact ⟨fr, s _ _ e, hf⟩
theorem Holds.cl_cell {w : World} {l : List SP} (h : Holds w l) (i : Nat) {b : Nat} {T : TypeId} {cs : List Value} (hi : l[i]? = some (cl b T cs)) {k : Nat} {v : Value}
    (hk : cs[k]? = some v) : w.cell? ⟨b, k, none⟩ = some v := by
  obtain ⟨fr, e, _⟩ := h.cl_block i hi
  rw [cell_of_row w b k _ T fr e]
  simpa using hk
theorem Holds.cl_frozen {w : World} {l : List SP} (h : Holds w l) (i : Nat) {b : Nat} {T : TypeId} {cs : List Value} (hi : l[i]? = some (cl b T cs)) {k : Nat} (hk : k < cs.length) :
    w.frozen? ⟨b, k, none⟩ = false := by
  obtain ⟨fr, e, hf⟩ := h.cl_block i hi
  simp only [World.frozen?, e]
  have := hf k hk
  simp only [Bool.and_eq_false_iff, decide_eq_false_iff_not]
  omega
theorem Holds.ro_sub {w : World} {l : List SP} (h : Holds w l) (i : Nat) {R : HP} (hi : l[i]? = some (ro R)) : Sub R (hp w) := by
  obtain ⟨h', s, e⟩ := Sat.at i hi h
  exact Sub.trans' e s
theorem Holds.ex {w : World} {α : Type} {A : α → SP} {l : List SP} (h : Holds w ((fun h => ∃ x, A x h) :: l)) : ∃ x, Holds w (A x :: l) := by
  obtain ⟨h1, k, s, t, d, ⟨x, a⟩, r⟩ := h
  exact ⟨x, h1, k, s, t, d, a, r⟩
/-- A block is written anew. -/
def upb (g : HP) (b : Nat) (o : Obj) : HP := fun c => if c = b then some o else g c
theorem hp_setBlock (w w' : World) (b : Nat) (o : Obj) (hb : w'.heap[b]? = some o) (hc : ∀ c, c ≠ b → w'.heap[c]? = w.heap[c]?) : hp w' = upb (hp w) b o := by
  funext c
  by_cases h : c = b
  · subst h; simp [upb, hp, hb]
  · simp [upb, hp, h, hc c h]
theorem Sat.upb_at {l : List SP} (i : Nat) {A B : SP} (hi : l[i]? = some A) {g : HP} (h : Sat l g) {b : Nat} {o : Obj}
    (hA : ∀ h, A h → ∃ x, h b = some x) (hB : ∀ h, A h → B (upb h b o)) : Sat (l.set i B) (upb g b o) := by
  refine Sat.set i hi h fun h k s t d a => ⟨upb h b o, ?_, ?_, ?_, hB h a⟩
  · intro c x e
    unfold upb at e ⊢
    split
    · rename_i hc; rw [if_pos hc] at e; exact e
    · rename_i hc; rw [if_neg hc] at e; exact s c x e
  · intro c x e
    unfold upb
    split
    · rename_i hc
      subst hc
      obtain ⟨y, hy⟩ := hA h a
      rcases d c with z | z
      · rw [z] at hy; cases hy
      · rw [z] at e; cases e
    · exact t c x e
  · intro c
    unfold upb
    split
    · rename_i hc
      subst hc
      obtain ⟨y, hy⟩ := hA h a
      rcases d c with z | z
      · rw [z] at hy; cases hy
      · exact .inr z
    · exact d c
theorem Sat.upb_new {l : List SP} {g : HP} (h : Sat l g) {b : Nat} {o : Obj} (hb : g b = none) {B : SP} (hB : B (fun c => if c = b then some o else none)) : Sat (B :: l) (upb g b o) := by
  refine ⟨fun c => if c = b then some o else none, g, ?_, ?_, ?_, hB, h⟩
  · intro c x e
    unfold upb
    dsimp only at e
    split
    · rename_i hc; rw [if_pos hc] at e; exact e
    · rename_i hc; rw [if_neg hc] at e; cases e
  · intro c x e
    unfold upb
    split
    · rename_i hc; subst hc; rw [hb] at e; cases e
    · exact e
  · intro c
    by_cases hc : c = b
    · subst hc; exact .inr hb
    · simp [hc]

theorem Holds.setCell {w : World} {l : List SP} (h : Holds w l) (i : Nat) {b : Nat} {T : TypeId} {cs : List Value} (hi : l[i]? = some (cl b T cs)) (k : Nat) (v : Value) :
    Holds (w.setCell ⟨b, k, none⟩ v) (l.set i (cl b T (cs.set k v))) := by
  obtain ⟨fr, e, _⟩ := h.cl_block i hi
  have hw : hp (w.setCell ⟨b, k, none⟩ v) = upb (hp w) b (.cells (cs.set k v).toArray T fr) := by
    refine hp_setBlock _ _ _ _ ?_ (fun c hc => heap_setCell_other _ _ _ _ hc)
    simp only [World.setCell, Array.getElem?_modify, if_true, e, Option.map_some]
    simp
  unfold Holds
  rw [hw]
  obtain ⟨h0, s0, fr0, e0, hf0⟩ := Sat.at i hi h
  have efr : fr0 = fr := by
    have := s0 _ _ e0
    simp only [hp, e] at this
    injection this with this
    injection this with _ _ this
    exact this.symm
  refine Sat.upb_at i hi h (fun h ⟨fr', e', _⟩ => ⟨_, e'⟩) fun h ⟨fr', e', hf'⟩ => ⟨fr, by simp [upb], ?_⟩
  subst efr
  simpa using hf0
theorem Holds.alloc {w : World} {l : List SP} (h : Holds w l) (cs : Array Value) (T : TypeId) : Holds (w.alloc (.cells cs T)) (cl w.heap.size T cs.toList :: l) := by
  have hw : hp (w.alloc (.cells cs T)) = upb (hp w) w.heap.size (.cells cs T) :=
    hp_setBlock _ _ _ _ (heap_alloc_new w _) (fun c hc => by
      rcases Nat.lt_or_ge c w.heap.size with x | x
      · exact heap_alloc_old w _ x
      · have h1 : (w.alloc (.cells cs T)).heap.size ≤ c := by simp; omega
        rw [Array.getElem?_eq_none h1, Array.getElem?_eq_none x])
  unfold Holds
  rw [hw]
  exact Sat.upb_new h (by simp [hp]) ⟨(0, 0), by simp, by simp⟩
theorem Holds.allocOb {w : World} {l : List SP} (h : Holds w l) (o : Obj) : Holds (w.alloc o) (ob w.heap.size o :: l) := by
  have hw : hp (w.alloc o) = upb (hp w) w.heap.size o :=
    hp_setBlock _ _ _ _ (heap_alloc_new w _) (fun c hc => by
      rcases Nat.lt_or_ge c w.heap.size with x | x
      · exact heap_alloc_old w _ x
      · have h1 : (w.alloc o).heap.size ≤ c := by simp; omega
        rw [Array.getElem?_eq_none h1, Array.getElem?_eq_none x])
  unfold Holds
  rw [hw]
  exact Sat.upb_new h (by simp [hp]) (by simp [ob])
/-! ### Lending: a block becomes one that is only read, and is taken back -/
theorem Holds.lend {w : World} {l : List SP} {R : HP} {A : SP} (h : Holds w (ro R :: A :: l)) : ∃ h0 : HP, A h0 ∧ Dis R h0 ∧ Holds w (ro (un R h0) :: l) := by
  obtain ⟨h1, k1, s1, t1, d1, a1, h2, k2, s2, t2, d2, a2, r⟩ := h
  refine ⟨h2, a2, (d1.sub_left a1).sub_right s2, un h1 h2, k2, Sub.un_lub s1 (s2.trans' t1), t2.trans' t1, Dis.un_left (d1.sub_right t2) d2, ?_, r⟩
  exact Sub.un_lub (a1.trans' (Sub.un_left _ _)) (Sub.un_right (d1.sub_right s2))
theorem Holds.back {w : World} {l : List SP} {R h0 : HP} {A : SP} (hA : A h0) (hd : Dis R h0) (h : Holds w (ro (un R h0) :: l)) : Holds w (ro R :: A :: l) := by
  obtain ⟨h1, k1, s1, t1, d1, a1, r⟩ := h
  have sR : Sub R h1 := (Sub.un_left _ _).trans' a1
  have s0 : Sub h0 h1 := (Sub.un_right hd).trans' a1
  refine ⟨R, un h0 k1, sR.trans' s1, Sub.un_lub (s0.trans' s1) t1, ?_, Sub.rfl' R, h0, k1, Sub.un_left _ _, Sub.un_right (d1.sub_left s0), d1.sub_left s0, hA, r⟩
  exact (Dis.un_left hd.symm (d1.sub_left sR).symm).symm

/-! ### Calls -/
/-- The call returns; Q says what, and which pieces there are behind it. All else is as it was. -/
def Tri (P : Program) (f : FuncId) (args : Array Value) (R : HP) (pre : List SP) (Q : Value → List SP → Prop) : Prop :=
  ∀ (w : World) (F : List SP), Holds w (ro R :: (pre ++ F)) →
    Calls P f args w fun e w' => ∃ v post, e = .returned v ∧ Q v post ∧ Same w w' ∧ Holds w' (ro R :: (post ++ F))
theorem Tri.mono {P : Program} {f : FuncId} {args : Array Value} {R : HP} {pre : List SP} {Q Q' : Value → List SP → Prop} (h : Tri P f args R pre Q) (hq : ∀ v l, Q v l → Q' v l) :
    Tri P f args R pre Q' := fun w F hh => (h w F hh).mono fun _ _ ⟨v, post, e, q, s, k⟩ => ⟨v, post, e, hq _ _ q, s, k⟩

#print axioms Holds.back
end Go.Proofs.Ytiblemgccgbhoaa.Gw
set_option linter.unusedVariables false
set_option linter.unusedSimpArgs false
namespace Go.Proofs.Ytiblemgccgbhoaa.Gw
open Go Go.RowKit

abbrev Env := Nat → Value
def upd (e : Env) (d : Nat) (v : Value) : Env := fun t => bif Nat.beq t d then v else e t
def mkA (n : Nat) (e : Env) (ds : List Deferred) : Act := ⟨Array.ofFn (n := n) fun i => e i, ds⟩
def ev (n : Nat) (e : Env) : Operand → Value
  | .tmp t => bif Nat.blt t n then e t else undef
  | .const v => v
  | .global g => .pointer (some ⟨g, 0, none⟩)
  | .func f => .func (.func f) #[] #[]
theorem upd_same (e : Env) (d : Nat) (v : Value) : upd e d v d = v := by simp [upd]
theorem upd_ne (e : Env) {d t : Nat} (v : Value) (h : t ≠ d) : upd e d v t = e t := by
  simp only [upd]
  have : Nat.beq t d = false := by
    cases hb : Nat.beq t d with
    | false => rfl
    | true => exact absurd (Nat.eq_of_beq_eq_true hb) h
  rw [this]; rfl
theorem upd_id {e : Env} {d : Nat} {v : Value} (h : e d = v) : upd e d v = e := by
  funext t
  by_cases ht : t = d
  · subst ht; rw [upd_same, h]
  · rw [upd_ne e v ht]
theorem ch {E C : Env} {d : Nat} {v : Value} (h : E = C) (hv : E d = v) : E = upd C d v := by subst h; exact (upd_id hv).symm
theorem eval_mkA (n : Nat) (e : Env) (ds : List Deferred) : (mkA n e ds).eval = ev n e := by
  funext x
  cases x with
  | tmp t =>
    simp only [Act.eval, mkA, ev]
    by_cases h : t < n
    · have h' : Nat.blt t n = true := by simpa using h
      rw [h']
      simp [Array.getD, h]
    · have h' : Nat.blt t n = false := by
        cases hb : Nat.blt t n with
        | false => rfl
        | true => exact absurd (by simpa using hb) h
      rw [h']
      simp [Array.getD, h]
  | const v => rfl
  | global g => rfl
  | func f => rfl
theorem put_mkA (n : Nat) (e : Env) (ds : List Deferred) (d : Nat) (v : Value) : (mkA n e ds).put (some d) v = mkA n (upd e d v) ds := by
  simp only [Act.put, mkA]
  congr 1
  apply Array.ext
  · simp
  · intro i h1 h2
    simp only [Array.getElem_ofFn]
    by_cases h : d = i
    · subst h; rw [upd_same]; simp
    · rw [upd_ne _ _ (Ne.symm h), Array.getElem_setIfInBounds_ne (by simpa using h2) h, Array.getElem_ofFn]
theorem mkA_args (al : List Value) (n : Nat) (h : al.length ≤ n) :
    ({ tmps := al.toArray ++ Array.replicate (n - al.toArray.size) undef, defers := [] } : Act) = mkA n (fun t => al.getD t undef) [] := by
  unfold mkA
  congr 1
  apply Array.ext
  · simp; omega
  · intro i h1 h2
    simp only [Array.getElem_ofFn, List.getD]
    by_cases hi : i < al.length
    · rw [Array.getElem_append_left (by simpa using hi)]
      simp [hi]
    · rw [Array.getElem_append_right (by simpa using hi)]
      simp [hi]

/-! ### One operation -/
def Stp (P : Program) (n : Nat) (e : Env) (o : Oper) (w : World) (K : Value → World → Prop) : Prop :=
  (∃ v w', (execOp (ev n e) o).run P w = .ok (.value v) w' ∧ K v w') ∨
  (∃ w', (execOp (ev n e) o).run P w = .ok .skip w' ∧ K undef w') ∨
  (∃ f args w', (execOp (ev n e) o).run P w = .ok (.enter f args) w' ∧ Calls P f args w' fun r w'' => ∃ v, r = .returned v ∧ K v w'')
section
variable {P : Program} {n : Nat} {e : Env} {w : World} {K : Value → World → Prop} {Q : Exit → Act → World → Prop} {ops : Array Oper} {rest : List Oper} {ds : List Deferred}
  {d : Option Nat} {ty : TypeId} {pos : String} {af : Array Edge} {g : Option (Nat × Bool)}

theorem Stp.wp {o : Oper} {K' : Act → World → Prop} (h : Stp P n e o w fun v w' => K' ((mkA n e ds).put o.dst v) w') : o.wp P (mkA n e ds) w K' Q := by
  unfold Oper.wp
  rw [eval_mkA]
  rcases h with ⟨v, w', hr, hk⟩ | ⟨w', hr, hk⟩ | ⟨f, args, w', hr, hk⟩
  · rw [hr]; exact hk
  · rw [hr]; exact hk
  · rw [hr]
    show Calls P f args w' _
    exact hk.mono fun r w'' ⟨v, er, hv⟩ => by subst er; exact hv
theorem S_list {dd : Nat} {op : Op} (h : Stp P n e ⟨some dd, op, ty, pos, af, none⟩ w fun v w' => wpList P ops Q rest (mkA n (upd e dd v) ds) w') :
    wpList P ops Q (⟨some dd, op, ty, pos, af, none⟩ :: rest) (mkA n e ds) w :=
  wpList_plain rfl fun K' hK => Stp.wp (by
    refine Or.elim h (fun ⟨v, w', hr, hk⟩ => .inl ⟨v, w', hr, ?_⟩) fun h => h.elim (fun ⟨w', hr, hk⟩ => .inr (.inl ⟨w', hr, ?_⟩)) fun ⟨f, args, w', hr, hk⟩ => .inr (.inr ⟨f, args, w', hr, ?_⟩)
    · dsimp only; rw [put_mkA]; exact hK _ _ hk
    · dsimp only; rw [put_mkA]; exact hK _ _ hk
    · exact hk.mono fun r w'' ⟨v, er, hv⟩ => ⟨v, er, by dsimp only; rw [put_mkA]; exact hK _ _ hv⟩)
theorem S_list0 {op : Op} (h : Stp P n e ⟨none, op, ty, pos, af, none⟩ w fun _ w' => wpList P ops Q rest (mkA n e ds) w') :
    wpList P ops Q (⟨none, op, ty, pos, af, none⟩ :: rest) (mkA n e ds) w :=
  wpList_plain rfl fun K' hK => Stp.wp (by
    refine Or.elim h (fun ⟨v, w', hr, hk⟩ => .inl ⟨v, w', hr, hK _ _ hk⟩) fun h => h.elim (fun ⟨w', hr, hk⟩ => .inr (.inl ⟨w', hr, hK _ _ hk⟩)) fun ⟨f, args, w', hr, hk⟩ => .inr (.inr ⟨f, args, w', hr, ?_⟩)
    exact hk.mono fun r w'' ⟨v, er, hv⟩ => ⟨v, er, hK _ _ hv⟩)

/-- A guard: what the slot says on which it hangs. -/
theorem yielded_mkA {lo : List Oper} {j dj : Nat} {b : Bool} (hj : (lo[j]?).bind (·.dst) = some dj) (hn : Nat.blt dj n = true) (hb : e dj = .bool b) : yielded lo.toArray (mkA n e ds).tmps j = some b := by
  unfold yielded
  rw [List.getElem?_toArray, hj]
  have hn' : dj < n := by simpa using hn
  simp only [Option.bind_some, mkA]
  simp [hn', hb]
theorem S_yes {lo : List Oper} {dd j dj : Nat} {b : Bool} {op : Op} (hj : (lo[j]?).bind (·.dst) = some dj) (hn : Nat.blt dj n = true) (hb : e dj = .bool b)
    (h : Stp P n e ⟨some dd, op, ty, pos, af, some (j, b)⟩ w fun v w' => wpList P lo.toArray Q rest (mkA n (upd e dd v) ds) w') :
    wpList P lo.toArray Q (⟨some dd, op, ty, pos, af, some (j, b)⟩ :: rest) (mkA n e ds) w :=
  wpList_step fun K' hK => by
    rw [if_pos (by simp [Region.wanted, yielded_mkA (ds := ds) hj hn hb])]
    refine Stp.wp ?_
    refine Or.elim h (fun ⟨v, w', hr, hk⟩ => .inl ⟨v, w', hr, ?_⟩) fun h => h.elim (fun ⟨w', hr, hk⟩ => .inr (.inl ⟨w', hr, ?_⟩)) fun ⟨f, args, w', hr, hk⟩ => .inr (.inr ⟨f, args, w', hr, ?_⟩)
    · dsimp only; rw [put_mkA]; exact hK _ _ hk
    · dsimp only; rw [put_mkA]; exact hK _ _ hk
    · exact hk.mono fun r w'' ⟨v, er, hv⟩ => ⟨v, er, by dsimp only; rw [put_mkA]; exact hK _ _ hv⟩
theorem S_no {lo : List Oper} {dd j dj : Nat} {b c : Bool} {op : Op} (hj : (lo[j]?).bind (·.dst) = some dj) (hn : Nat.blt dj n = true) (hb : e dj = .bool b) (hc : b ≠ c)
    (h : wpList P lo.toArray Q rest (mkA n (upd e dd undef) ds) w) :
    wpList P lo.toArray Q (⟨some dd, op, ty, pos, af, some (j, c)⟩ :: rest) (mkA n e ds) w :=
  wpList_step fun K' hK => by
    rw [if_neg (by simp [Region.wanted, yielded_mkA (ds := ds) hj hn hb, hc])]
    dsimp only
    rw [put_mkA]
    exact hK _ _ h
/-! ### Values -/
def tin (P : Program) (t : TypeId) : Option (Nat × Nat × Option Value) := (P.info? t).map fun i => (i.size, i.bytes, i.zero)
theorem tin_info {t s b : Nat} {z : Option Value} (h : tin P t = some (s, b, z)) : ∃ i, P.info? t = some i ∧ i.size = s ∧ i.bytes = b ∧ i.zero = z := by
  unfold tin at h
  cases hi : P.info? t with
  | none => rw [hi] at h; cases h
  | some i => rw [hi] at h; simp at h; exact ⟨i, rfl, h.1, h.2.1, h.2.2⟩
theorem run_typeInfo {t : TypeId} {i : TypeInfo} (h : P.info? t = some i) : (typeInfo t).run P w = .ok i w := by
  simp [typeInfo, h]
theorem run_underlying {t : TypeId} {u : TypeDesc} (h : P.underlying t = some u) : (underlying t).run P w = .ok u w := by
  simp [underlying, h]
theorem run_sizeOf {t s b : Nat} {z : Option Value} (h : tin P t = some (s, b, z)) : (sizeOf t).run P w = .ok s w := by
  obtain ⟨i, hi, h1, _, _⟩ := tin_info h
  simp [sizeOf, run_typeInfo hi, h1]
theorem run_zeroValue {t s b : Nat} {z : Value} (h : tin P t = some (s, b, some z)) : (zeroValue t).run P w = .ok z w := by
  obtain ⟨i, hi, _, _, h3⟩ := tin_info h
  simp [zeroValue, run_typeInfo hi, h3]
def aggD : TypeDesc → Bool
  | .struct _ | .array _ _ => true
  | _ => false
theorem run_isAgg {t : TypeId} {u : TypeDesc} (h : P.underlying t = some u) : (isAgg t).run P w = .ok (aggD u) w := by
  simp only [isAgg, Sem.run_bind, run_underlying h, Result.andThen_ok]
  cases u <;> rfl

theorem T_val {o : Oper} {v : Value} (h : (execOp (ev n e) o).run P w = .ok (.value v) w) (k : K v w) : Stp P n e o w K := .inl ⟨v, w, h, k⟩
theorem sv {dd : Nat} {op : Op} {v : Value} (h : (execOp (ev n e) ⟨some dd, op, ty, pos, af, none⟩).run P w = .ok (.value v) w) (k : wpList P ops Q rest (mkA n (upd e dd v) ds) w) : wpList P ops Q (⟨some dd, op, ty, pos, af, none⟩ :: rest) (mkA n e ds) w := S_list (T_val h k)
theorem run_v (s : Sem Value) {v : Value} {w' : World} (h : s.run P w = .ok v w') : (do pure (Next.value (← s)) : Sem Next).run P w = .ok (.value v) w' := by
  simp [h]

theorem x_move {x : Operand} {v : Value} (h : ev n e x = v) : (execOp (ev n e) ⟨d, .move x, ty, pos, af, g⟩).run P w = .ok (.value v) w := by subst h; rfl
theorem x_assign {x : Operand} {v : Value} (h : ev n e x = v) : (execOp (ev n e) ⟨d, .assign x, ty, pos, af, g⟩).run P w = .ok (.value v) w := by subst h; rfl
theorem x_pick {c x y : Operand} {b : Bool} {v u : Value} (hc : ev n e c = .bool b) (hx : ev n e x = v) (hy : ev n e y = u) :
    (execOp (ev n e) ⟨d, .pick c x y, ty, pos, af, g⟩).run P w = .ok (.value (if b then v else u)) w := by
  subst hx; subst hy
  simp only [execOp, hc]
  simp [asBool]
theorem T_pickT {c x y : Operand} {v : Value} (hc : ev n e c = .bool true) (hx : ev n e x = v) (k : K v w) : Stp P n e ⟨d, .pick c x y, ty, pos, af, g⟩ w K :=
  T_val (by simpa using x_pick (P := P) (w := w) (d := d) (ty := ty) (pos := pos) (af := af) (g := g) hc hx (rfl : ev n e y = ev n e y)) k
theorem T_pickF {c x y : Operand} {v : Value} (hc : ev n e c = .bool false) (hy : ev n e y = v) (k : K v w) : Stp P n e ⟨d, .pick c x y, ty, pos, af, g⟩ w K :=
  T_val (by simpa using x_pick (P := P) (w := w) (d := d) (ty := ty) (pos := pos) (af := af) (g := g) hc (rfl : ev n e x = ev n e x) hy) k

/-- What a binary operation on whole numbers gives; none: it may panic. -/
def ibin (op : BinOp) (k : IntKind) (a b : Int) : Option Value :=
  match op with
  | .add => some (.int k (k.wrap (a + b)))
  | .sub => some (.int k (k.wrap (a - b)))
  | .mul => some (.int k (k.wrap (a * b)))
  | .quo => if b = 0 then none else some (.int k (k.wrap (a.tdiv b)))
  | .rem => if b = 0 then none else some (.int k (a.tmod b))
  | .and => some (.int k (k.wrap (BitVec.ofInt k.bits a &&& BitVec.ofInt k.bits b).toNat))
  | .or => some (.int k (k.wrap (BitVec.ofInt k.bits a ||| BitVec.ofInt k.bits b).toNat))
  | .xor => some (.int k (k.wrap (BitVec.ofInt k.bits a ^^^ BitVec.ofInt k.bits b).toNat))
  | .andNot => some (.int k (k.wrap (BitVec.ofInt k.bits a &&& ~~~BitVec.ofInt k.bits b).toNat))
  | .eql => some (.bool (decide (a = b)))
  | .neq => some (.bool (decide (a ≠ b)))
  | .lss => some (.bool (decide (a < b)))
  | .leq => some (.bool (decide (a ≤ b)))
  | .gtr => some (.bool (decide (b < a)))
  | .geq => some (.bool (decide (b ≤ a)))
  | _ => none
theorem run_eqGuard_int {op : BinOp} {t : TypeId} {x y : Operand} {k k' : IntKind} {a b : Int} : (eqGuard op t x y (.int k a) (.int k' b)).run P w = .ok () w := by
  unfold eqGuard
  cases op <;> rfl
theorem x_bin {op : BinOp} {t u : TypeId} {x y : Operand} {k : IntKind} {a b : Int} {v : Value} (hx : ev n e x = .int k a) (hy : ev n e y = .int k b) (hv : ibin op k a b = some v) :
    (execOp (ev n e) ⟨d, .binOp op t x y u, ty, pos, af, g⟩).run P w = .ok (.value v) w := by
  simp only [execOp]
  refine run_v _ ?_
  rw [hx, hy]
  simp only [Sem.run_bind, run_eqGuard_int, Result.andThen_ok]
  cases op <;> simp only [ibin, reduceCtorEq, Option.some.injEq] at hv <;>
    first
    | (subst hv; simp [binOp, Op.intArith, Op.intBits, Op.intCmp]; done)
    | (subst hv; simp only [binOp, Op.intCmp, ne_eq, not_true, if_false, Sem.run_pure]; by_cases h : a = b <;> simp [h]; done)
    | (split at hv
       · cases hv
       · rename_i hb; cases hv; simp [binOp, Op.intDiv, hb])
theorem ib_add {k : IntKind} {a b : Int} (h : k.wrap (a + b) = a + b) : ibin .add k a b = some (.int k (a + b)) := by simp [ibin, h]
theorem ib_sub {k : IntKind} {a b : Int} (h : k.wrap (a - b) = a - b) : ibin .sub k a b = some (.int k (a - b)) := by simp [ibin, h]
end
theorem mkA_defers (n : Nat) (e : Env) (ds : List Deferred) : (mkA n e ds).defers = ds := rfl
theorem mkA_defer (n : Nat) (e : Env) (ds : List Deferred) (d : Deferred) : ({ tmps := (mkA n e ds).tmps, defers := d :: (mkA n e ds).defers } : Act) = mkA n e (d :: ds) := rfl
attribute [irreducible] mkA
end Go.Proofs.Ytiblemgccgbhoaa.Gw
set_option linter.unusedVariables false
set_option linter.unusedSimpArgs false
namespace Go.Proofs.Ytiblemgccgbhoaa.Gw
open Go Go.RowKit
section
variable {P : Program} {n : Nat} {e : Env} {w : World} {K : Value → World → Prop} {Q : Exit → Act → World → Prop} {ops : Array Oper} {rest : List Oper} {ds : List Deferred}
  {d : Option Nat} {ty : TypeId} {pos : String} {af : Array Edge} {g : Option (Nat × Bool)} {l : List SP}

/-! ### Loads and stores -/
theorem add_mk (b o j : Nat) : (Addr.mk b o none).add j = ⟨b, o + j, none⟩ := by
  unfold Addr.add
  split
  · rename_i h; subst h; rfl
  · rfl
theorem run_loadAt1 {t : TypeId} {u : TypeDesc} {p : Addr} {v : Value} (hu : P.underlying t = some u) (hd : aggD u = false) (hc : w.cell? p = some v) :
    (Instr.loadAt t (.pointer (some p))).run P w = .ok v w := by
  simp only [Instr.loadAt, Instr.sureAddr, loadVar, Sem.run_bind, Sem.run_pure, Result.andThen_ok, run_isAgg hu, hd, Bool.false_eq_true, if_false, run_load, hc]
theorem run_loadAtN {t s b : Nat} {z : Option Value} {u : TypeDesc} {p : Addr} {vs : List Value} (hu : P.underlying t = some u) (hd : aggD u = true) (hz : tin P t = some (s, b, z)) (hl : vs.length = s)
    (hc : ∀ j v, vs[j]? = some v → w.cell? (p.add j) = some v) : (Instr.loadAt t (.pointer (some p))).run P w = .ok (.agg vs.toArray) w := by
  subst hl
  simp only [Instr.loadAt, Instr.sureAddr, loadVar, Sem.run_bind, Sem.run_pure, Result.andThen_ok, run_isAgg hu, hd, if_true, run_sizeOf hz, run_loadCells_list w p vs hc]
theorem Holds.cl_cells (h : Holds w l) (i : Nat) {b : Nat} {T : TypeId} {cs : List Value} (hi : l[i]? = some (cl b T cs)) (off : Nat) {vs : List Value} (hv : (cs.drop off).take vs.length = vs) :
    ∀ j v, vs[j]? = some v → w.cell? ((Addr.mk b off none).add j) = some v := by
  intro j v hj
  rw [add_mk]
  refine h.cl_cell i hi ?_
  rw [← hv] at hj
  rw [List.getElem?_take] at hj
  split at hj
  · rw [List.getElem?_drop] at hj; exact hj
  · cases hj
theorem run_storeAt1 {t s b : Nat} {z : Option Value} {p : Addr} {v u : Value} (hz : tin P t = some (1, b, z)) (hv : v.oneCell' = true) (hc : w.cell? p = some u) (hf : w.frozen? p = false) :
    (Instr.storeAt t (.pointer (some p)) v).run P w = .ok () (w.setCell p v) := by
  have hcs : v.cells = #[v] := by cases v <;> first | rfl | simp [Value.oneCell'] at hv
  have ha : p.add 0 = p := rfl
  simp only [Instr.storeAt, Instr.sureAddr, storeVar, Sem.run_bind, Sem.run_pure, Result.andThen_ok, run_sizeOf hz, hcs, storeCells, ha, run_store P w p v _ hv, hc, hf]
  simp [storeCells, run_store P w p v _ hv, hc, hf, ha]
def setCells (w : World) (b off : Nat) : List Value → World
  | [] => w
  | v :: r => setCells (w.setCell ⟨b, off, none⟩ v) b (off + 1) r
theorem Same.setCells (b : Nat) : ∀ (vs : List Value) (off : Nat) (w : World), Same w (setCells w b off vs)
  | [], _, w => Same.refl w
  | v :: r, off, w => (Same.setCell w _ v).trans (Same.setCells b r (off + 1) _)
theorem run_storeCells {b : Nat} : ∀ (vs : List Value) (off j : Nat) (w : World), (∀ v ∈ vs, v.oneCell' = true) →
    (∀ k, k < vs.length → ∃ u, w.cell? ⟨b, off + j + k, none⟩ = some u) → (∀ k, k < vs.length → w.frozen? ⟨b, off + j + k, none⟩ = false) →
    (storeCells ⟨b, off, none⟩ vs j).run P w = .ok () (setCells w b (off + j) vs)
  | [], off, j, w, _, _, _ => rfl
  | v :: r, off, j, w, h1, h2, h3 => by
    obtain ⟨u, hu⟩ := h2 0 (by simp)
    have hf := h3 0 (by simp)
    simp only [Nat.add_zero] at hu hf
    simp only [storeCells, Sem.run_bind, add_mk, run_store P w _ v _ (h1 v (by simp)), hu, hf]
    have ih := run_storeCells r off (j + 1) (w.setCell ⟨b, off + j, none⟩ v) (fun x hx => h1 x (by simp [hx]))
      (fun k hk => by
        obtain ⟨y, hy⟩ := h2 (k + 1) (by simp; omega)
        refine ⟨y, ?_⟩
        rw [World.cell?_setCell_other w _ _ v (by simp)]
        rw [show off + (j + 1) + k = off + j + (k + 1) by omega]; exact hy)
      (fun k hk => by
        have := h3 (k + 1) (by simp; omega)
        rw [World.frozen?_setCell]
        rw [show off + (j + 1) + k = off + j + (k + 1) by omega]; exact this)
    simp only [Bool.false_eq_true, if_false, Result.andThen_ok]
    rw [ih]
    rfl
theorem Holds.setCells (i : Nat) {b : Nat} {T : TypeId} : ∀ (vs : List Value) (off : Nat) (w : World) (l : List SP) (cs : List Value), Holds w l → l[i]? = some (cl b T cs) → off + vs.length ≤ cs.length →
    Holds (Gw.setCells w b off vs) (l.set i (cl b T (cs.take off ++ vs ++ cs.drop (off + vs.length))))
  | [], off, w, l, cs, h, hi, _ => by
    have : cs.take off ++ [] ++ cs.drop (off + 0) = cs := by simp
    simp only [List.length_nil]
    rw [this]
    have : l.set i (cl b T cs) = l := by
      obtain ⟨hl, he⟩ := List.getElem?_eq_some_iff.1 hi
      rw [← he]; simp
    rw [this]; exact h
  | v :: r, off, w, l, cs, h, hi, hlen => by
    have hl : i < l.length := (List.getElem?_eq_some_iff.1 hi).1
    have h1 := h.setCell i hi off v
    have h2 := Holds.setCells i (b := b) (T := T) r (off + 1) _ _ (cs.set off v) h1 (by simp [hl]) (by simp at hlen ⊢; omega)
    simp only [List.length_cons] at hlen ⊢
    rw [List.set_set] at h2
    have e : (cs.set off v).take (off + 1) ++ r ++ (cs.set off v).drop (off + 1 + r.length) = cs.take off ++ v :: r ++ cs.drop (off + (r.length + 1)) := by
      have e1 : (cs.set off v).take (off + 1) = cs.take off ++ [v] := by
        rw [List.take_succ_eq_append_getElem (by simp; omega)]
        simp [List.take_set_of_le]
      rw [e1, List.drop_set_of_lt (by omega)]
      simp [Nat.add_comm 1 r.length, Nat.add_assoc]
    rw [e] at h2
    exact h2
/-- A store of one cell into a block that is ours. -/
theorem T_store1 {t b bb T : Nat} {z : Option Value} {x y : Operand} {off : Nat} {v : Value} {cs : List Value} (hx : ev n e x = .pointer (some ⟨b, off, none⟩)) (hy : ev n e y = v) (hz : tin P t = some (1, bb, z))
    (hv : v.oneCell' = true) (h : Holds w l) (i : Nat) (hi : l[i]? = some (cl b T cs)) (hk : off < cs.length) (k : ∀ w', Same w w' → Holds w' (l.set i (cl b T (cs.set off v))) → K undef w') :
    Stp P n e ⟨d, .store t x y, ty, pos, af, g⟩ w K := by
  refine .inr (.inl ⟨w.setCell ⟨b, off, none⟩ v, ?_, k _ (Same.setCell w _ v) (h.setCell i hi off v)⟩)
  simp only [execOp]
  rw [hx, hy]
  simp only [Sem.run_bind, run_storeAt1 (s := 1) hz hv (h.cl_cell i hi (List.getElem?_eq_getElem hk)) (h.cl_frozen i hi hk), Result.andThen_ok, Sem.run_pure]
theorem T_storeN {t s b bb T : Nat} {z : Option Value} {x y : Operand} {off : Nat} {vs cs : List Value} (hx : ev n e x = .pointer (some ⟨b, off, none⟩)) (hy : ev n e y = .agg vs.toArray) (hz : tin P t = some (s, bb, z))
    (hs : vs.length = s) (hv : ∀ v ∈ vs, v.oneCell' = true) (h : Holds w l) (i : Nat) (hi : l[i]? = some (cl b T cs)) (hk : off + vs.length ≤ cs.length)
    (k : ∀ w', Same w w' → Holds w' (l.set i (cl b T (cs.take off ++ vs ++ cs.drop (off + vs.length)))) → K undef w') :
    Stp P n e ⟨d, .store t x y, ty, pos, af, g⟩ w K := by
  subst hs
  refine .inr (.inl ⟨setCells w b off vs, ?_, k _ (Same.setCells b vs off w) (Holds.setCells i vs off w l cs h hi hk)⟩)
  simp only [execOp]
  rw [hx, hy]
  have hc : (Value.agg vs.toArray).cells = vs.toArray := rfl
  have hr := run_storeCells (P := P) (b := b) vs off 0 w hv (fun k hk' => ⟨_, h.cl_cell i hi (List.getElem?_eq_getElem (by omega : off + 0 + k < cs.length))⟩) (fun k hk' => h.cl_frozen i hi (by omega))
  simp only [Nat.add_zero] at hr
  simp only [Sem.run_bind, Instr.storeAt, Instr.sureAddr, storeVar, Sem.run_pure, Result.andThen_ok, run_sizeOf hz, hc, List.size_toArray, ne_eq, not_true, if_false]
  simp [hr]

/-! ### New blocks -/
theorem T_new {o : Oper} {obj : Obj} {f : Nat → Value} (hr : (execOp (ev n e) o).run P w = .ok (.value (f w.heap.size)) (w.alloc obj)) {A : Nat → SP} (hA : ∀ l, Holds w l → Holds (w.alloc obj) (A w.heap.size :: l))
    (h : Holds w l) (k : ∀ b w', Same w w' → Holds w' (A b :: l) → K (f b) w') : Stp P n e o w K :=
  .inl ⟨_, _, hr, k _ _ (Same.alloc w obj) (hA l h)⟩
theorem T_box {t : Nat} {x : Operand} {v : Value} (hx : ev n e x = v) (h : Holds w l) (k : ∀ b w', Same w w' → Holds w' (cl b t v.cells.toList :: l) → K (.pointer (some ⟨b, 0, none⟩)) w') :
    Stp P n e ⟨d, .box t x, ty, pos, af, g⟩ w K := by
  refine T_new (obj := .cells v.cells t) (f := fun b => .pointer (some ⟨b, 0, none⟩)) ?_ (fun l h => h.alloc _ _) h k
  simp only [execOp]; rw [hx]; rfl
theorem T_alloc {t s b : Nat} {v : Value} (hz : tin P t = some (s, b, some v)) (h : Holds w l) (k : ∀ b w', Same w w' → Holds w' (cl b t v.cells.toList :: l) → K (.pointer (some ⟨b, 0, none⟩)) w') :
    Stp P n e ⟨d, .alloc t, ty, pos, af, g⟩ w K := by
  refine T_new (obj := .cells v.cells t) (f := fun b => .pointer (some ⟨b, 0, none⟩)) ?_ (fun l h => h.alloc _ _) h k
  simp only [execOp, Instr.alloc]
  refine run_v _ ?_
  simp only [Sem.run_bind, run_zeroValue hz, Result.andThen_ok]
  rfl

/-! ### Places -/
theorem run_part1 {t : TypeId} {u : TypeDesc} {cs : Array Value} {off : Nat} {v : Value} (hu : P.underlying t = some u) (hd : aggD u = false) (hv : cs[off]? = some v) : (part t cs off).run P w = .ok v w := by
  simp [part, run_isAgg hu, hd, hv]
theorem run_slice_slice {t el : TypeId} {a : Option Addr} {len cap sz bb : Nat} {z : Option Value} {lo hi : Option Value} {l h : Nat} (hu : P.underlying t = some (.slice el)) (hz : tin P el = some (sz, bb, z))
    (hb : (Instr.sliceBounds true len cap lo hi none).run P w = .ok (l, h, cap) w) :
    (Instr.sliceAt t (.slice a len cap) lo hi none).run P w = .ok (.slice (if cap = l then a else a.map (·.add (l * sz))) (h - l) (cap - l)) w := by
  simp [Instr.sliceAt, run_underlying hu, Instr.slice, hb, run_sizeOf hz]
theorem run_bounds {isS : Bool} {len cap : Nat} {lo hi : Option Value} {l h : Nat} (hh : (match hi with | none => h = len | some v => ∃ k i, v = .int k i ∧ 0 ≤ i ∧ i ≤ cap ∧ i.toNat = h))
    (hl : (match lo with | none => l = 0 | some v => ∃ k i, v = .int k i ∧ 0 ≤ i ∧ i ≤ h ∧ i.toNat = l)) : (Instr.sliceBounds isS len cap lo hi none).run P w = .ok (l, h, cap) w := by
  unfold Instr.sliceBounds
  cases hi with
  | none =>
    dsimp only at hh; subst hh
    cases lo with
    | none => dsimp only at hl; subst hl; rfl
    | some v =>
      obtain ⟨k, i, rfl, h0, h1, rfl⟩ := hl
      simp [Instr.sliceBound, asIntOf, h0, h1]
  | some u =>
    obtain ⟨k', i', rfl, h0', h1', rfl⟩ := hh
    cases lo with
    | none => dsimp only at hl; subst hl; simp [Instr.sliceBound, asIntOf, h0', h1']
    | some v =>
      obtain ⟨k, i, rfl, h0, h1, rfl⟩ := hl
      have h2 : i ≤ max i' 0 := by omega
      simp [Instr.sliceBound, asIntOf, h0, h0', h1', h2]
end
end Go.Proofs.Ytiblemgccgbhoaa.Gw
set_option linter.unusedVariables false
set_option linter.unusedSimpArgs false
namespace Go.Proofs.Ytiblemgccgbhoaa.Gw
open Go Go.RowKit
section
variable {P : Program} {n : Nat} {e : Env} {w : World} {K : Value → World → Prop} {Q : Exit → Act → World → Prop} {ops : Array Oper} {rest : List Oper} {ds : List Deferred}
  {d : Option Nat} {ty : TypeId} {pos : String} {af : Array Edge} {g : Option (Nat × Bool)} {l : List SP}

/-! ### Code -/
theorem C_reg {id : Nat} {lo : List Oper} (h : wpList P lo.toArray Q lo (mkA n e ds) w) : (Code.region id lo.toArray false).wp P Q (mkA n e ds) w := wp_region_lit h
theorem C_seq {x y : Code} (h : ∀ K : Act → World → Prop, (∀ a w, y.wp P Q a w → K a w) → x.wp P (Exit.then K Q) (mkA n e ds) w) : (Code.seq x y).wp P Q (mkA n e ds) w := wp_seq (h _ fun _ _ h => h)
theorem C_block {id : Nat} {c : Code} (h : c.wp P (Exit.inBlock id Q) (mkA n e ds) w) : (Code.block id c).wp P Q (mkA n e ds) w := wp_block h
theorem C_skip (h : Q .normal (mkA n e ds) w) : Code.skip.wp P Q (mkA n e ds) w := wp_skip h
theorem C_exit {id : Nat} (h : Q (.exit id) (mkA n e ds) w) : (Code.exit id).wp P Q (mkA n e ds) w := wp_exit h
theorem C_ret (h : Q .ret (mkA n e ds) w) : Code.ret.wp P Q (mkA n e ds) w := wp_ret h
theorem C_cond {c : Operand} {x y : Code} {b : Bool} (hc : ev n e c = .bool b) (h1 : b = true → x.wp P Q (mkA n e ds) w) (h2 : b = false → y.wp P Q (mkA n e ds) w) : (Code.cond c x y).wp P Q (mkA n e ds) w :=
  wp_cond_split (t := b) (by rw [eval_mkA]; exact hc) h1 h2
theorem C_condT {c : Operand} {x y : Code} (hc : ev n e c = .bool true) (h1 : x.wp P Q (mkA n e ds) w) : (Code.cond c x y).wp P Q (mkA n e ds) w := C_cond hc (fun _ => h1) (fun h => by cases h)
theorem C_condF {c : Operand} {x y : Code} (hc : ev n e c = .bool false) (h1 : y.wp P Q (mkA n e ds) w) : (Code.cond c x y).wp P Q (mkA n e ds) w := C_cond hc (fun h => by cases h) (fun _ => h1)
/-- A cut: what stands in front comes to J, and J is enough for what stands behind. -/
theorem C_cut {x y : Code} (J : Act → World → Prop) (h : x.wp P (Exit.then J Q) (mkA n e ds) w) (k : ∀ a w', J a w' → y.wp P Q a w') : (Code.seq x y).wp P Q (mkA n e ds) w :=
  wp_seq (wp_mono h fun ex a w' hq => by cases ex <;> first | exact k _ _ hq | exact hq)
theorem X_then {J : Act → World → Prop} {a : Act} (h : J a w) : Exit.then J Q .normal a w := h
theorem X_thenX {J : Act → World → Prop} {a : Act} {i : Nat} (h : Q (.exit i) a w) : Exit.then J Q (.exit i) a w := h
theorem X_thenR {J : Act → World → Prop} {a : Act} (h : Q .ret a w) : Exit.then J Q .ret a w := h
theorem X_blkN {a : Act} {id : Nat} (h : Q .normal a w) : Exit.inBlock id Q .normal a w := h
theorem X_blkR {a : Act} {id : Nat} (h : Q .ret a w) : Exit.inBlock id Q .ret a w := h
theorem X_blkHit {a : Act} {id : Nat} (h : Q .normal a w) : Exit.inBlock id Q (.exit id) a w := by simp only [Exit.inBlock, if_true]; exact h
theorem X_blkMiss {a : Act} {id i : Nat} (hn : Nat.beq i id = false) (h : Q (.exit i) a w) : Exit.inBlock id Q (.exit i) a w := by
  have : ¬ i = id := fun he => by subst he; simp at hn
  simp only [Exit.inBlock, this, if_false]; exact h
/-- A loop: what holds at each round's head, said of a thing 'x' of the prover's own, which each round lowers. -/
theorem C_loop {γ : Type} {c : Code} (I : γ → Act → World → Prop) (μ : γ → Nat) (x0 : γ) (h0 : I x0 (mkA n e ds) w)
    (round : ∀ x a w, I x a w → c.wp P (Exit.then (fun a' w' => ∃ x', I x' a' w' ∧ μ x' < μ x) Q) a w) : (Code.loop c).wp P Q (mkA n e ds) w := by
  have key : ∀ (m : Nat) (x : γ) (a : Act) (w : World), μ x = m → I x a w → ∀ (b : Frame) (k : List Item) (cs : List Frame),
      ∃ ex a' w', Q ex a' w' ∧ Arrives P (lone (b.at a (.code c :: .inLoop c :: k)) cs w) b k cs ex a' w' := by
    intro m
    induction m using Nat.strongRecOn with
    | _ m ih =>
      intro x a w hm hI b k cs
      obtain ⟨ex, a₁, w₁, hq, harr⟩ := round x a w hI b (.inLoop c :: k) cs
      cases ex with
      | normal =>
        obtain ⟨x', hI₁, hlt⟩ := hq
        obtain ⟨e₂, a₂, w₂, hq₂, harr₂⟩ := ih (μ x') (hm ▸ hlt) x' a₁ w₁ rfl hI₁ b k cs
        exact ⟨e₂, a₂, w₂, hq₂, .of_steps (Steps.trans harr (.one step_inLoop)) harr₂⟩
      | exit id => exact ⟨_, a₁, w₁, hq, .pass (x := .inLoop c) rfl (fun _ _ => .inl (by simp)) harr⟩
      | goto l => exact ⟨_, a₁, w₁, hq, .pass (x := .inLoop c) rfl (fun _ _ => .inl (by simp)) harr⟩
      | ret => exact ⟨_, a₁, w₁, hq, .pass (x := .inLoop c) rfl (fun _ _ => .inl (by simp)) harr⟩
      | panic ch => exact ⟨_, a₁, w₁, hq, .pass (x := .inLoop c) rfl (fun _ _ => .inl (by simp)) harr⟩
      | outgrown => exact ⟨_, a₁, w₁, hq, .pass (x := .inLoop c) rfl (fun _ _ => .inl (by simp)) harr⟩
  intro b k cs
  obtain ⟨ex, a', w', hq, harr⟩ := key _ x0 _ w rfl h0 b k cs
  exact ⟨ex, a', w', hq, .of_steps (.one step_loop) harr⟩

/-! ### Calls -/
def callable (P : Program) (f : FuncId) : Bool := match P.funcs[f]? with
  | some fn => fn.body.isSome && fn.name != "runtime.NumGoroutine"
  | none => false
theorem run_callFunc {f : FuncId} {args : Array Value} (h : callable P f = true) : (callFunc f args).run P w = .ok (.enter f args) w := by
  unfold callable at h
  split at h
  · rename_i fn hf
    simp only [Bool.and_eq_true, bne_iff_ne, ne_eq] at h
    obtain ⟨h1, h2⟩ := h
    have h3 : ¬ fn.body = none := fun hb => by rw [hb] at h1; cases h1
    simp [callFunc, hf, h3, h2]
  · cases h
theorem T_callW {f : FuncId} {x : Operand} {lo : List Operand} {cl al : List Value} {at_ : Array TypeId} (hx : ev n e x = .func (.func f) #[] cl.toArray) (ha : lo.map (ev n e) ++ cl = al)
    (hc : callable P f = true) (h : Calls P f al.toArray w fun r w' => ∃ v, r = .returned v ∧ K v w') : Stp P n e ⟨d, .call { callee := .value x, args := lo.toArray, argTypes := at_ }, ty, pos, af, g⟩ w K := by
  subst ha
  refine .inr (.inr ⟨f, _, w, ?_, h⟩)
  simp only [execOp, resolve, hx, Deferred.ofValue, Sem.run_bind, Sem.run_pure, Result.andThen_ok, invoke]
  simp [run_callFunc hc]
theorem T_call {f : FuncId} {x : Operand} {lo : List Operand} {cl al : List Value} {at_ : Array TypeId} {R : HP} {pre F : List SP} {Qc : Value → List SP → Prop}
    (hx : ev n e x = .func (.func f) #[] cl.toArray) (ha : lo.map (ev n e) ++ cl = al) (hc : callable P f = true) (ht : Tri P f al.toArray R pre Qc) (h : Holds w (ro R :: (pre ++ F)))
    (k : ∀ v post w', Qc v post → Same w w' → Holds w' (ro R :: (post ++ F)) → K v w') : Stp P n e ⟨d, .call { callee := .value x, args := lo.toArray, argTypes := at_ }, ty, pos, af, g⟩ w K :=
  T_callW hx ha hc ((ht w F h).mono fun r w' ⟨v, post, er, q, s, hh⟩ => ⟨v, er, k v post w' q s hh⟩)
/-- A call walked into. -/
theorem Calls.into {f : FuncId} {fn : Func} {c : Code} {args : Array Value} {al : List Value} {R : Ending → World → Prop} (hf : P.funcs[f]? = some fn) (hb : fn.body = some c) (hn : fn.ntmps = n) (ha : args = al.toArray)
    (hl : Nat.ble al.length n = true) (h : c.wp P (bodyPost P fn R) (mkA n (fun t => al.getD t undef) []) w) : Calls P f args w R := by
  subst ha; subst hn
  refine calls_of_wp hf hb ?_
  rw [mkA_args al _ (by simpa using hl)]
  exact h
theorem Tri.into {f : FuncId} {fn : Func} {c : Code} {args : Array Value} {al : List Value} {R : HP} {pre : List SP} {Qc : Value → List SP → Prop} (hf : P.funcs[f]? = some fn) (hb : fn.body = some c) (hn : fn.ntmps = n)
    (ha : args = al.toArray) (hl : Nat.ble al.length n = true)
    (h : ∀ w F, Holds w (ro R :: (pre ++ F)) → c.wp P (bodyPost P fn fun r w' => ∃ v post, r = .returned v ∧ Qc v post ∧ Same w w' ∧ Holds w' (ro R :: (post ++ F))) (mkA n (fun t => al.getD t undef) []) w) :
    Tri P f args R pre Qc := fun w F hh => Calls.into hf hb hn ha hl (h w F hh)

/-! ### Results -/
theorem ev_getD (t : Nat) : (mkA n e ds).tmps.getD t undef = ev n e (.tmp t) := congrFun (eval_mkA n e ds) (.tmp t)
theorem ev_getO (t : Nat) : (mkA n e ds).tmps[t]?.getD undef = ev n e (.tmp t) := by
  rw [← ev_getD (ds := ds)]; simp
theorem R_0 {fn : Func} {R : Ending → World → Prop} (hr : fn.results = #[]) (h : R (.returned (.tuple #[])) w) : bodyPost P fn R .normal (mkA n e []) w :=
  bodyPost_end (results_none hr _ _ _) (mkA_defers ..) h
theorem R_0r {fn : Func} {R : Ending → World → Prop} (hr : fn.results = #[]) (h : R (.returned (.tuple #[])) w) : bodyPost P fn R .ret (mkA n e []) w :=
  bodyPost_ret (results_none hr _ _ _) (mkA_defers ..) h
/-- One result, or several, as they lie: temporaries and variables. -/
theorem R_any {fn : Func} {R : Ending → World → Prop} {v : Value} (hr : (results fn (mkA n e []).tmps).run P w = .ok v w) (h : R (.returned v) w) : bodyPost P fn R .ret (mkA n e []) w :=
  bodyPost_ret hr (mkA_defers ..) h
def resRun (P : Program) (n : Nat) (e : Env) (w : World) : ResultVar → Value → Prop
  | .tmp t, v => ev n e (.tmp t) = v
  | .cell a t, v => ∃ p, ev n e (.tmp a) = .pointer (some p) ∧ (loadVar t p).run P w = .ok v w
theorem run_results1 {fn : Func} {r : ResultVar} {v : Value} (hr : fn.results = #[r]) (h : resRun P n e w r v) : (results fn (mkA n e ds).tmps).run P w = .ok v w := by
  cases r with
  | tmp t => rw [results_tmp hr, ev_getD]; simp only [resRun] at h; rw [h]
  | cell a t =>
    obtain ⟨p, h1, h2⟩ := h
    simp [results, hr, ev_getO, h1, asAddr, h2]
theorem run_results2 {fn : Func} {r s : ResultVar} {v u : Value} (hr : fn.results = #[r, s]) (h : resRun P n e w r v) (h' : resRun P n e w s u) : (results fn (mkA n e ds).tmps).run P w = .ok (.tuple #[v, u]) w := by
  cases r <;> cases s <;> simp only [resRun] at h h'
  · simp [results, hr, ev_getO, h, h']
  · obtain ⟨p, h1, h2⟩ := h'; simp [results, hr, ev_getO, h, h1, asAddr, h2]
  · obtain ⟨p, h1, h2⟩ := h; simp [results, hr, ev_getO, h', h1, asAddr, h2]
  · obtain ⟨p, h1, h2⟩ := h; obtain ⟨p', h1', h2'⟩ := h'; simp [results, hr, ev_getO, h1, h1', asAddr, h2, h2']
theorem run_results3 {fn : Func} {r s t : ResultVar} {v u x : Value} (hr : fn.results = #[r, s, t]) (h : resRun P n e w r v) (h' : resRun P n e w s u) (h'' : resRun P n e w t x) :
    (results fn (mkA n e ds).tmps).run P w = .ok (.tuple #[v, u, x]) w := by
  cases r <;> cases s <;> cases t <;> simp only [resRun] at h h' h'' <;> (try obtain ⟨p, h1, h2⟩ := h) <;> (try obtain ⟨p', h1', h2'⟩ := h') <;> (try obtain ⟨p'', h1'', h2''⟩ := h'') <;>
    simp_all [results, ev_getO, asAddr]
theorem load_res1 {t : TypeId} {u : TypeDesc} {p : Addr} {v : Value} (hu : P.underlying t = some u) (hd : aggD u = false) (hc : w.cell? p = some v) : (loadVar t p).run P w = .ok v w := by
  have := run_loadAt1 (P := P) (w := w) hu hd hc
  simpa [Instr.loadAt, Instr.sureAddr] using this
theorem load_resN {t s b : Nat} {z : Option Value} {u : TypeDesc} {p : Addr} {vs : List Value} (hu : P.underlying t = some u) (hd : aggD u = true) (hz : tin P t = some (s, b, z)) (hl : vs.length = s)
    (hc : ∀ j v, vs[j]? = some v → w.cell? (p.add j) = some v) : (loadVar t p).run P w = .ok (.agg vs.toArray) w := by
  have := run_loadAtN (P := P) (w := w) hu hd hz hl hc
  simpa [Instr.loadAt, Instr.sureAddr] using this
end
end Go.Proofs.Ytiblemgccgbhoaa.Gw
set_option linter.unusedVariables false
set_option linter.unusedSimpArgs false
namespace Go.Proofs.Ytiblemgccgbhoaa.Gw
open Go Go.RowKit
section
variable {P : Program} {n : Nat} {e : Env} {w : World} {K : Value → World → Prop} {Q : Exit → Act → World → Prop} {ops : Array Oper} {rest : List Oper} {ds : List Deferred}
  {d : Option Nat} {ty : TypeId} {pos : String} {af : Array Edge} {g : Option (Nat × Bool)} {l : List SP}
theorem x_cast {o : Oper} {v v' : Value} (h : (execOp (ev n e) o).run P w = .ok (.value v) w) (hv : v = v') : (execOp (ev n e) o).run P w = .ok (.value v') w := hv ▸ h
theorem x_load1 {t : TypeId} {u : TypeDesc} {x : Operand} {p : Addr} {v : Value} (hx : ev n e x = .pointer (some p)) (hu : P.underlying t = some u) (hd : aggD u = false) (hc : w.cell? p = some v) :
    (execOp (ev n e) ⟨d, .load t x, ty, pos, af, g⟩).run P w = .ok (.value v) w := by simp only [execOp]; rw [hx]; exact run_v _ (run_loadAt1 hu hd hc)
theorem x_loadN {t s b : Nat} {z : Option Value} {u : TypeDesc} {x : Operand} {p : Addr} {vs : List Value} (hx : ev n e x = .pointer (some p)) (hu : P.underlying t = some u) (hd : aggD u = true)
    (hz : tin P t = some (s, b, z)) (hl : vs.length = s) (hc : ∀ j v, vs[j]? = some v → w.cell? (p.add j) = some v) : (execOp (ev n e) ⟨d, .load t x, ty, pos, af, g⟩).run P w = .ok (.value (.agg vs.toArray)) w := by
  simp only [execOp]; rw [hx]; exact run_v _ (run_loadAtN hu hd hz hl hc)
theorem x_indexAddr {t el : TypeId} {x y : Operand} {b off len cap i sz bb : Nat} {z : Option Value} {k' : IntKind} {p : Addr} {ii : Int} (hx : ev n e x = .slice (some ⟨b, off, none⟩) len cap) (hy : ev n e y = .int k' ii)
    (hu : P.underlying t = some (.slice el)) (hz : tin P el = some (sz, bb, z)) (h0 : 0 ≤ ii) (hi : ii < len) (hn : ii.toNat = i) (hp : (⟨b, off + i * sz, none⟩ : Addr) = p) :
    (execOp (ev n e) ⟨d, .indexAddr t x y, ty, pos, af, g⟩).run P w = .ok (.value (.pointer (some p))) w := by
  subst hp; subst hn
  simp only [execOp]
  rw [hx, hy]
  refine run_v _ ?_
  simp [Instr.indexAt, asIntOf, run_underlying hu, h0, hi, run_sizeOf hz, add_mk]
theorem x_slice {t el : TypeId} {x : Operand} {lo hi : Option Operand} {a : Option Addr} {len cap sz bb l h : Nat} {z : Option Value} {v : Value} (hx : ev n e x = .slice a len cap) (hu : P.underlying t = some (.slice el))
    (hz : tin P el = some (sz, bb, z)) (hh : (match hi.map (ev n e) with | none => h = len | some v => ∃ k i, v = .int k i ∧ 0 ≤ i ∧ i ≤ cap ∧ i.toNat = h))
    (hl : (match lo.map (ev n e) with | none => l = 0 | some v => ∃ k i, v = .int k i ∧ 0 ≤ i ∧ i ≤ h ∧ i.toNat = l)) (hv : Value.slice (if cap = l then a else a.map (·.add (l * sz))) (h - l) (cap - l) = v) :
    (execOp (ev n e) ⟨d, .slice t x lo hi none, ty, pos, af, g⟩).run P w = .ok (.value v) w := by
  subst hv
  simp only [execOp]
  rw [hx]
  refine run_v _ ?_
  exact run_slice_slice hu hz (run_bounds hh hl)
theorem x_convI {s t : TypeId} {x : Operand} {k k' : IntKind} {a b : Int} {u : TypeDesc} (hx : ev n e x = .int k a) (hs : P.underlying s = some u) (ht : P.underlying t = some (.int k')) (hv : k'.wrap a = b) :
    (execOp (ev n e) ⟨d, .convert s t x, ty, pos, af, g⟩).run P w = .ok (.value (.int k' b)) w := by
  subst hv
  simp only [execOp]
  rw [hx]
  refine run_v _ ?_
  simp only [convert, Sem.run_bind, run_underlying hs, run_underlying ht, Result.andThen_ok]
  cases u <;> simp [Conv.intToInt]
theorem x_lenS {argO : Operand} {t : TypeId} {el : TypeId} {a : Option Addr} {len cap : Nat} (hx : ev n e argO = .slice a len cap) (hu : P.underlying t = some (.slice el)) :
    (execOp (ev n e) ⟨d, .call { callee := .builtin .len, args := #[argO], argTypes := #[t] }, ty, pos, af, g⟩).run P w = .ok (.value (.int .i64 len)) w := by
  simp only [execOp, resolve, Sem.run_bind, Sem.run_pure, Result.andThen_ok, invoke, builtin]
  simp [hx, Builtin.len_, run_underlying hu, goInt]
theorem x_lenT {argO : Operand} {t : TypeId} {s : ByteArray} (hx : ev n e argO = .string s) (hu : P.underlying t = some .string) :
    (execOp (ev n e) ⟨d, .call { callee := .builtin .len, args := #[argO], argTypes := #[t] }, ty, pos, af, g⟩).run P w = .ok (.value (.int .i64 s.size)) w := by
  simp only [execOp, resolve, Sem.run_bind, Sem.run_pure, Result.andThen_ok, invoke, builtin]
  simp [hx, Builtin.len_, run_underlying hu, goInt]
theorem x_not {x : Operand} {t : TypeId} {b : Bool} (hx : ev n e x = .bool b) : (execOp (ev n e) ⟨d, .unOp .not t x, ty, pos, af, g⟩).run P w = .ok (.value (.bool !b)) w := by
  simp only [execOp]; rw [hx]; rfl
theorem x_notP {x : Operand} {t : TypeId} {p : Prop} [Decidable p] (hx : ev n e x = .bool (decide p)) : (execOp (ev n e) ⟨d, .unOp .not t x, ty, pos, af, g⟩).run P w = .ok (.value (.bool (decide (¬ p)))) w := by
  rw [x_not hx]; simp
theorem x_pickT {c x y : Operand} {v : Value} (hc : ev n e c = .bool true) (hx : ev n e x = v) : (execOp (ev n e) ⟨d, .pick c x y, ty, pos, af, g⟩).run P w = .ok (.value v) w := by
  simpa using x_pick (P := P) (w := w) (d := d) (ty := ty) (pos := pos) (af := af) (g := g) hc hx (rfl : ev n e y = ev n e y)
theorem x_pickF {c x y : Operand} {v : Value} (hc : ev n e c = .bool false) (hy : ev n e y = v) : (execOp (ev n e) ⟨d, .pick c x y, ty, pos, af, g⟩).run P w = .ok (.value v) w := by
  simpa using x_pick (P := P) (w := w) (d := d) (ty := ty) (pos := pos) (af := af) (g := g) hc (rfl : ev n e x = ev n e x) hy
/-! ### What a block of ours, or one that is only read, holds -/
def Rd (b : Nat) (cs : List Value) (w : World) : Prop := ∀ k v, cs[k]? = some v → w.cell? ⟨b, k, none⟩ = some v
theorem Rd.cells {b : Nat} {cs : List Value} (h : Rd b cs w) (off : Nat) {vs : List Value} (hv : (cs.drop off).take vs.length = vs) : ∀ j v, vs[j]? = some v → w.cell? ((Addr.mk b off none).add j) = some v := by
  intro j v hj
  rw [add_mk]
  refine h _ _ ?_
  rw [← hv] at hj
  rw [List.getElem?_take] at hj
  split at hj
  · rw [List.getElem?_drop] at hj; exact hj
  · cases hj
theorem Holds.rd (h : Holds w l) (i : Nat) {b : Nat} {T : TypeId} {cs : List Value} (hi : l[i]? = some (cl b T cs)) : Rd b cs w := fun _ _ hk => h.cl_cell i hi hk

/-! ### Regions whose order is open -/
theorem A_start {id N : Nat} {lo : List Oper} {S : World → Prop} (hm : P.follows .mixedOrders = true) (hs : Nat.beq lo.length N = true) {ls : Array Bool} (hl : Array.replicate N false = ls)
    (h : wpAnyH P .any lo.toArray Q S N ls (mkA n e ds) w.drew) : (Code.region id lo.toArray true).wp P Q (mkA n e ds) w := by
  have hs' : lo.length = N := Nat.eq_of_beq_eq_true hs
  subst hl
  refine wp_region_held (S := S) hm ?_
  have : lo.toArray.size = N := by simpa using hs'
  rw [this]
  exact h
theorem A_take {lo : List Oper} {S : World → Prop} {fuel : Nat} {ls ls' : Array Bool} (i : Nat) {dd : Nat} {op : Op} {v : Value} (hi : lo[i]? = some ⟨some dd, op, ty, pos, af, none⟩) (hs : Region.noSelect lo.toArray = true)
    (hf : Region.free .any lo.toArray ls i = true) (hr : (Region.ready .any lo.toArray ls).contains i = true) (hl : ls.setIfInBounds i true = ls') (hQ : ∀ c a w, Q (.panic c) (a.put (some dd) v) w → Q (.panic c) a w)
    (hy : ∀ w, S w → (execOp (ev n e) ⟨some dd, op, ty, pos, af, none⟩).run P w = .ok (.value v) w) (hS : S w) (h : wpAnyH P .any lo.toArray Q S fuel ls' (mkA n (upd e dd v) ds) w) :
    wpAnyH P .any lo.toArray Q S (fuel + 1) ls (mkA n e ds) w := by
  subst hl
  have hi : lo.toArray[i]? = _ := (List.getElem?_toArray ..).trans hi
  refine wpAnyH_take hi hs hf hr hQ (.inl ⟨rfl, fun w hw => ?_⟩) hS ?_
  · rw [eval_mkA]; exact hy w hw
  · rw [put_mkA]; exact h
theorem A_takeYes {lo : List Oper} {S : World → Prop} {fuel : Nat} {ls ls' : Array Bool} (i : Nat) {dd j dj : Nat} {b : Bool} {op : Op} {v : Value} (hi : lo[i]? = some ⟨some dd, op, ty, pos, af, some (j, b)⟩) (hs : Region.noSelect lo.toArray = true)
    (hf : Region.free .any lo.toArray ls i = true) (hr : (Region.ready .any lo.toArray ls).contains i = true) (hl : ls.setIfInBounds i true = ls') (hQ : ∀ c a w, Q (.panic c) (a.put (some dd) v) w → Q (.panic c) a w)
    (hj : (lo[j]?).bind (·.dst) = some dj) (hn : Nat.blt dj n = true) (hb : e dj = .bool b)
    (hy : ∀ w, S w → (execOp (ev n e) ⟨some dd, op, ty, pos, af, some (j, b)⟩).run P w = .ok (.value v) w) (hS : S w) (h : wpAnyH P .any lo.toArray Q S fuel ls' (mkA n (upd e dd v) ds) w) :
    wpAnyH P .any lo.toArray Q S (fuel + 1) ls (mkA n e ds) w := by
  subst hl
  have hi : lo.toArray[i]? = _ := (List.getElem?_toArray ..).trans hi
  refine wpAnyH_take hi hs hf hr hQ (.inl ⟨by simp [Region.wanted, yielded_mkA (ds := ds) hj hn hb], fun w hw => ?_⟩) hS ?_
  · rw [eval_mkA]; exact hy w hw
  · rw [put_mkA]; exact h
theorem A_takeNo {lo : List Oper} {S : World → Prop} {fuel : Nat} {ls ls' : Array Bool} (i : Nat) {dd j dj : Nat} {b c : Bool} {op : Op} (hi : lo[i]? = some ⟨some dd, op, ty, pos, af, some (j, c)⟩) (hs : Region.noSelect lo.toArray = true)
    (hf : Region.free .any lo.toArray ls i = true) (hr : (Region.ready .any lo.toArray ls).contains i = true) (hl : ls.setIfInBounds i true = ls') (hQ : ∀ c a w, Q (.panic c) (a.put (some dd) undef) w → Q (.panic c) a w)
    (hj : (lo[j]?).bind (·.dst) = some dj) (hn : Nat.blt dj n = true) (hb : e dj = .bool b) (hc : b ≠ c) (hS : S w)
    (h : wpAnyH P .any lo.toArray Q S fuel ls' (mkA n (upd e dd undef) ds) w) : wpAnyH P .any lo.toArray Q S (fuel + 1) ls (mkA n e ds) w := by
  subst hl
  have hi : lo.toArray[i]? = _ := (List.getElem?_toArray ..).trans hi
  refine wpAnyH_take hi hs hf hr hQ (.inr ⟨by simp [Region.wanted, yielded_mkA (ds := ds) hj hn hb, hc], rfl⟩) hS ?_
  rw [put_mkA]; exact h
theorem A_done {S : World → Prop} {fuel : Nat} {ls : Array Bool} (hr : Region.ready .any ops ls = []) (h : Q .normal (mkA n e ds) w) : wpAnyH P .any ops Q S fuel ls (mkA n e ds) w := wpAnyH_done hr h fuel
def AllR (P : Program) (ops : Array Oper) (Q : Exit → Act → World → Prop) (S : World → Prop) (fuel : Nat) (ls : Array Bool) (a : Act) (w : World) (rs : List Nat) : Prop :=
  ∀ i ∈ rs, wpOp P ops Q i (fun a' w' => S w' ∧ wpAnyH P .any ops Q S fuel (ls.setIfInBounds i true) a' w') a w
theorem A_ready {S : World → Prop} {fuel : Nat} {ls : Array Bool} {i : Nat} {rs : List Nat} (hr : Region.ready .any ops ls = i :: rs) (h : AllR P ops Q S fuel ls (mkA n e ds) w (i :: rs)) :
    wpAnyH P .any ops Q S (fuel + 1) ls (mkA n e ds) w := wpAnyH_all hr (by simp) h
theorem AllR.nil {S : World → Prop} {fuel : Nat} {ls : Array Bool} {a : Act} : AllR P ops Q S fuel ls a w [] := fun i hi => by cases hi
theorem AllR.cons {S : World → Prop} {fuel : Nat} {ls : Array Bool} {a : Act} {i : Nat} {rs : List Nat}
    (h : wpOp P ops Q i (fun a' w' => S w' ∧ wpAnyH P .any ops Q S fuel (ls.setIfInBounds i true) a' w') a w) (k : AllR P ops Q S fuel ls a w rs) : AllR P ops Q S fuel ls a w (i :: rs) := fun j hj => by
  rcases List.mem_cons.1 hj with rfl | hj
  · exact h
  · exact k j hj
theorem A_op {lo : List Oper} {S : World → Prop} {fuel i dd : Nat} {ls ls' : Array Bool} {op : Op} (hi : lo[i]? = some ⟨some dd, op, ty, pos, af, none⟩) (hl : ls.setIfInBounds i true = ls')
    (h : Stp P n e ⟨some dd, op, ty, pos, af, none⟩ w fun v w' => S w' ∧ wpAnyH P .any lo.toArray Q S fuel ls' (mkA n (upd e dd v) ds) w') :
    wpOp P lo.toArray Q i (fun a' w' => S w' ∧ wpAnyH P .any lo.toArray Q S fuel (ls.setIfInBounds i true) a' w') (mkA n e ds) w := by
  subst hl
  unfold wpOp
  rw [List.getElem?_toArray, hi]
  dsimp only
  rw [if_pos (by rfl)]
  refine .inl (Stp.wp ?_)
  simpa only [put_mkA] using h
theorem A_op0 {lo : List Oper} {S : World → Prop} {fuel i : Nat} {ls ls' : Array Bool} {op : Op} (hi : lo[i]? = some ⟨none, op, ty, pos, af, none⟩) (hl : ls.setIfInBounds i true = ls')
    (h : Stp P n e ⟨none, op, ty, pos, af, none⟩ w fun v w' => S w' ∧ wpAnyH P .any lo.toArray Q S fuel ls' (mkA n e ds) w') :
    wpOp P lo.toArray Q i (fun a' w' => S w' ∧ wpAnyH P .any lo.toArray Q S fuel (ls.setIfInBounds i true) a' w') (mkA n e ds) w := by
  subst hl
  unfold wpOp
  rw [List.getElem?_toArray, hi]
  dsimp only
  rw [if_pos (by rfl)]
  exact .inl (Stp.wp h)
theorem A_opYes {lo : List Oper} {S : World → Prop} {fuel i dd j dj : Nat} {b : Bool} {ls ls' : Array Bool} {op : Op} (hi : lo[i]? = some ⟨some dd, op, ty, pos, af, some (j, b)⟩) (hl : ls.setIfInBounds i true = ls')
    (hj : (lo[j]?).bind (·.dst) = some dj) (hn : Nat.blt dj n = true) (hb : e dj = .bool b)
    (h : Stp P n e ⟨some dd, op, ty, pos, af, some (j, b)⟩ w fun v w' => S w' ∧ wpAnyH P .any lo.toArray Q S fuel ls' (mkA n (upd e dd v) ds) w') :
    wpOp P lo.toArray Q i (fun a' w' => S w' ∧ wpAnyH P .any lo.toArray Q S fuel (ls.setIfInBounds i true) a' w') (mkA n e ds) w := by
  subst hl
  unfold wpOp
  rw [List.getElem?_toArray, hi]
  dsimp only
  rw [if_pos (by simp [Region.wanted, yielded_mkA (ds := ds) hj hn hb])]
  refine .inl (Stp.wp ?_)
  simpa only [put_mkA] using h
end
end Go.Proofs.Ytiblemgccgbhoaa.Gw
set_option linter.unusedVariables false
set_option linter.unusedSimpArgs false
namespace Go.Proofs.Ytiblemgccgbhoaa.Gw
open Go Go.RowKit
section
variable {P : Program} {n : Nat} {e : Env} {w : World} {K : Value → World → Prop} {Q : Exit → Act → World → Prop} {ops : Array Oper} {rest : List Oper} {ds : List Deferred}
  {d : Option Nat} {ty : TypeId} {pos : String} {af : Array Edge} {g : Option (Nat × Bool)} {l : List SP}

/-- The value v is a slice of m elements (of sz cells, of type T), whose cells are xs; its row is ours. -/
def sl (T sz : Nat) (v : Value) (m : Nat) (xs : List Value) : SP := fun h =>
  (v = .slice none 0 0 ∧ m = 0 ∧ xs = []) ∨ ∃ b pr sp cap, v = .slice (some ⟨b, pr.length, none⟩) m cap ∧ xs.length = m * sz ∧ sp.length = (cap - m) * sz ∧ m ≤ cap ∧ cl b T (pr ++ xs ++ sp) h
theorem sl_nil (T sz : Nat) (h : HP) : sl T sz (.slice none 0 0) 0 [] h := .inl ⟨rfl, rfl, rfl⟩
theorem Sat.add_free {A : SP} (hA : ∀ h, A h) {l : List SP} {g : HP} (h : Sat l g) : Sat (A :: l) g :=
  ⟨(fun _ => none), g, (fun _ _ e => by cases e), Sub.rfl' g, (fun _ => Or.inl rfl), hA _, h⟩
theorem Holds.add_nil (h : Holds w l) (T sz : Nat) : Holds w (sl T sz (.slice none 0 0) 0 [] :: l) := Sat.add_free (sl_nil T sz) h
theorem Sat.map_at {A B : SP} {g : HP} (i : Nat) (hi : l[i]? = some A) (f : ∀ h, A h → B h) (h : Sat l g) : Sat (l.set i B) g :=
  Sat.set i hi h fun h' k s t d a => ⟨h', s, t, d, f h' a⟩
theorem Holds.map_at {A B : SP} (h : Holds w l) (i : Nat) (hi : l[i]? = some A) (f : ∀ h, A h → B h) : Holds w (l.set i B) := Sat.map_at i hi f h
/-- A row made by the call is a slice of one's own. -/
theorem Holds.to_sl (h : Holds w l) (i : Nat) {b T sz m cap : Nat} {xs : List Value} (pr sp : List Value) (hi : l[i]? = some (cl b T (pr ++ xs ++ sp))) (h1 : xs.length = m * sz) (h2 : sp.length = (cap - m) * sz) (h3 : m ≤ cap) :
    Holds w (l.set i (sl T sz (.slice (some ⟨b, pr.length, none⟩) m cap) m xs)) :=
  h.map_at i hi fun h' a => .inr ⟨b, pr, sp, cap, rfl, h1, h2, h3, a⟩
theorem Holds.sl_at (h : Holds w l) (i : Nat) {T sz m : Nat} {v : Value} {xs : List Value} (hi : l[i]? = some (sl T sz v m xs)) :
    (v = .slice none 0 0 ∧ m = 0 ∧ xs = []) ∨ ∃ b pr sp cap, v = .slice (some ⟨b, pr.length, none⟩) m cap ∧ xs.length = m * sz ∧ sp.length = (cap - m) * sz ∧ m ≤ cap ∧ Holds w (l.set i (cl b T (pr ++ xs ++ sp))) := by
  obtain ⟨h1, k, s, t, dd, a, r⟩ := Sat.bring i hi h
  rcases a with a | ⟨b, pr, sp, cap, e1, e2, e3, e4, a⟩
  · exact .inl a
  · refine .inr ⟨b, pr, sp, cap, e1, e2, e3, e4, ?_⟩
    have hl : i < l.length := (List.getElem?_eq_some_iff.1 hi).1
    refine Sat.back i (A := cl b T (pr ++ xs ++ sp)) (by simp [hl]) ?_
    rw [List.eraseIdx_set_eq]
    exact ⟨h1, k, s, t, dd, a, r⟩
theorem Holds.sl_len (h : Holds w l) (i : Nat) {T sz m : Nat} {v : Value} {xs : List Value} (hi : l[i]? = some (sl T sz v m xs)) : xs.length = m * sz ∧ ∃ a cap, v = .slice a m cap ∧ m ≤ cap := by
  rcases h.sl_at i hi with ⟨rfl, rfl, rfl⟩ | ⟨b, pr, sp, cap, rfl, e2, e3, e4, _⟩
  · exact ⟨by simp, _, _, rfl, Nat.le_refl _⟩
  · exact ⟨e2, _, _, rfl, e4⟩
/-- What an append reads of its second argument. -/
theorem Holds.sl_src (h : Holds w l) (i : Nat) {T sz m t e' : Nat} {v : Value} {xs : List Value} (hi : l[i]? = some (sl T sz v m xs)) (hk : P.underlying t = some (.slice e')) (h1 : ∀ u ∈ xs, u.oneCell' = true) :
    Src P sz t v m xs w := by
  rcases h.sl_at i hi with ⟨rfl, rfl, rfl⟩ | ⟨b, pr, sp, cap, rfl, e2, e3, e4, hh⟩
  · exact Src.ofNil w hk 0
  · refine Src.ofSlice w hk _ _ _ _ e2 (fun j u hj => ?_) h1
    rw [add_mk]
    have hl : i < l.length := (List.getElem?_eq_some_iff.1 hi).1
    refine hh.cl_cell i (b := b) (T := T) (cs := pr ++ xs ++ sp) (by simp [hl]) ?_
    have hj' : j < xs.length := (List.getElem?_eq_some_iff.1 hj).1
    rw [List.append_assoc, List.getElem?_append_right (by omega), show pr.length + j - pr.length = j by omega, List.getElem?_append_left hj', hj]
theorem Holds.cl_src (h : Holds w l) (i : Nat) {b T sz m c t e' : Nat} {xs : List Value} (hi : l[i]? = some (cl b T xs)) (hk : P.underlying t = some (.slice e')) (h1 : ∀ u ∈ xs, u.oneCell' = true) (hl : xs.length = m * sz) :
    Src P sz t (.slice (some ⟨b, 0, none⟩) m c) m xs w :=
  Src.ofSlice w hk _ _ _ _ hl (fun j u hj => by rw [add_mk, Nat.zero_add]; exact h.cl_cell i hi hj) h1
theorem setCells_eq (b : Nat) : ∀ (vs : List Value) (o : Nat) (w : World), w.setCells b o vs = setCells w b o vs
  | [], _, _ => rfl
  | v :: r, o, w => setCells_eq b r (o + 1) _
theorem Same.drew_alloc (w : World) (o : Obj) : Same w (w.drew.alloc o) := ⟨rfl, rfl, rfl⟩

theorem run_append_sl {t tx ty el sz bb m k : Nat} {z v x : Value} {xs ys : List Value} (ht : P.underlying t = some (.slice el)) (hz : tin P el = some (sz, bb, some z)) (hzs : z.cells.size = sz) (hb : 0 < bb)
    (h : Holds w l) (i : Nat) (hi : l[i]? = some (sl el sz v m xs)) (hs : Src P sz tx x k ys w) (hroom : (m + k) * bb ≤ 140737488355328) :
    ∃ v' w', (Builtin.append_ #[t, tx] ty #[v, x]).run P w = .ok v' w' ∧ Same w w' ∧ Holds w' (l.set i (sl el sz v' (m + k) (xs ++ ys))) := by
  obtain ⟨ti, hti, h1, h2, h3⟩ := tin_info hz
  have hl : i < l.length := (List.getElem?_eq_some_iff.1 hi).1
  have hset : l.set i (sl el sz v m xs) = l := by
    obtain ⟨hl, he⟩ := List.getElem?_eq_some_iff.1 hi
    rw [← he]; simp
  have hmk : m + k ≤ 140737488355328 := Nat.le_trans (Nat.le_mul_of_pos_right _ hb) hroom
  have grow : ∀ (base : Option Addr) (cap : Nat), cap < m + k → (Builtin.firstCells sz m (.slice base m cap)).run P w.drew = .ok xs.toArray w.drew → xs.length = m * sz →
      ∃ v' w', (Builtin.append_ #[t, tx] ty #[.slice base m cap, x]).run P w = .ok v' w' ∧ Same w w' ∧ Holds w' (l.set i (sl el sz v' (m + k) (xs ++ ys))) := by
    intro base cap hg hold hlen
    have hfit : Builtin.nextslicecap (m + k) cap * ti.bytes ≤ 281474976710656 := by
      rw [h2]
      have := nextslicecap_le hg
      calc Builtin.nextslicecap (m + k) cap * bb ≤ 2 * (m + k) * bb := Nat.mul_le_mul_right _ this
        _ = 2 * ((m + k) * bb) := by rw [Nat.mul_assoc]
        _ ≤ _ := by omega
    have hr := run_append_grow_src (P := P) w t tx ty el ti z ht hti h3 base m cap xs (by rw [h1]; exact hold) x k ys (by rw [h1]; exact hs) hg (by omega) hfit
    refine ⟨_, _, hr, Same.drew_alloc w _, ?_⟩
    have hge : m + k ≤ grownCap w (m + k) cap el := grownCap_ge w (m + k) cap el
    have ha := (h.drew).alloc (((xs ++ ys).toArray ++ Builtin.zeroCells z.cells (grownCap w (m + k) cap el - (m + k)))) el
    have hb' := ha.bring (i + 1) (A := sl el sz v m xs) (by simpa using hi)
    have hc := hb'.tail
    -- the new row in the old one's place
    have hd : Holds (w.drew.alloc (.cells ((xs ++ ys).toArray ++ Builtin.zeroCells z.cells (grownCap w (m + k) cap el - (m + k))) el))
        (sl el sz (.slice (some ⟨w.heap.size, 0, none⟩) (m + k) (grownCap w (m + k) cap el)) (m + k) (xs ++ ys) :: l.eraseIdx i) := by
      refine Holds.map_at (B := sl el sz (.slice (some ⟨w.heap.size, 0, none⟩) (m + k) (grownCap w (m + k) cap el)) (m + k) (xs ++ ys)) hc 0 rfl fun h' a => .inr ⟨w.heap.size, [], (Builtin.zeroCells z.cells (grownCap w (m + k) cap el - (m + k))).toList, grownCap w (m + k) cap el, rfl, ?_, ?_, hge, ?_⟩
      · rw [List.length_append, hlen, hs.newsLen, Nat.add_mul]
      · rw [Array.length_toList]
        simp [Builtin.zeroCells, hzs]
      · simpa using a
    refine Sat.back i (A := sl el sz (.slice (some ⟨w.heap.size, 0, none⟩) (m + k) (grownCap w (m + k) cap el)) (m + k) (xs ++ ys)) (by simp [hl]) ?_
    rw [List.eraseIdx_set_eq]
    exact hd
  rcases h.sl_at i hi with ⟨rfl, rfl, rfl⟩ | ⟨b, pr, sp, cap, rfl, e2, e3, e4, hh⟩
  · by_cases hk : k = 0
    · subst hk
      have hys : ys = [] := by
        have := hs.newsLen
        simpa using this
      subst hys
      refine ⟨.slice none 0 0, w, ?_, Same.refl w, by rw [show 0 + 0 = 0 by rfl, List.append_nil, hset]; exact h⟩
      rcases hs.kind with ⟨e', hk⟩ | hk <;> simp [Builtin.append_, run_underlying ht, run_underlying hk, sizeOf, typeInfo, hti, hs.len, h1, hs.cells]
    · exact grow none 0 (by omega) (run_firstCells_none _ _ _ _ _) (by simp)
  · by_cases hroom' : m + k ≤ cap
    · have hyl := hs.newsLen
      have hsp : k * sz ≤ sp.length := by
        rw [e3]
        exact Nat.mul_le_mul_right _ (by omega)
      have hi' : (l.set i (cl b el (pr ++ xs ++ sp)))[i]? = some (cl b el (pr ++ xs ++ sp)) := by simp [hl]
      have hoff : pr.length + m * sz + ys.length ≤ (pr ++ xs ++ sp).length := by simp only [List.length_append]; omega
      have hr := run_append_room_src (P := P) w t tx ty el ti ht hti b pr.length m cap x k ys (by rw [h1]; exact hs) hroom'
        (fun j hj => by
          rw [h1, hh.cl_cell i hi' (List.getElem?_eq_getElem (by omega : pr.length + m * sz + j < (pr ++ xs ++ sp).length))]; rfl)
        (fun j hj => by rw [h1]; exact hh.cl_frozen i hi' (by omega))
      rw [h1] at hr
      refine ⟨_, _, hr, by rw [setCells_eq]; exact Same.setCells b ys _ w, ?_⟩
      rw [setCells_eq]
      have hset2 := Holds.setCells i ys (pr.length + m * sz) w _ _ hh hi' hoff
      rw [List.set_set] at hset2
      have e : (pr ++ xs ++ sp).take (pr.length + m * sz) ++ ys ++ (pr ++ xs ++ sp).drop (pr.length + m * sz + ys.length) = pr ++ (xs ++ ys) ++ sp.drop ys.length := by
        have e0 : (pr ++ xs).length = pr.length + m * sz := by rw [List.length_append, e2]
        rw [← e0, List.take_left, List.drop_append, List.drop_eq_nil_of_le (by omega), show (pr ++ xs).length + ys.length - (pr ++ xs).length = ys.length by omega]
        simp [List.append_assoc]
      rw [e] at hset2
      have := Holds.map_at (B := sl el sz (.slice (some ⟨b, pr.length, none⟩) (m + k) cap) (m + k) (xs ++ ys)) hset2 i (by simp [hl]) fun h' a =>
        .inr ⟨b, pr, sp.drop ys.length, cap, rfl, by rw [List.length_append, e2, hyl, Nat.add_mul], by rw [List.length_drop, e3, hyl, ← Nat.sub_mul]; congr 1; omega, hroom', a⟩
      rwa [List.set_set] at this
    · refine grow _ cap (by omega) ?_ e2
      refine run_firstCells_some _ _ _ _ _ _ _ e2 fun j u hj => ?_
      rw [add_mk]
      have hi' : (l.set i (cl b el (pr ++ xs ++ sp)))[i]? = some (cl b el (pr ++ xs ++ sp)) := by simp [hl]
      have := hh.drew.cl_cell i hi' (k := pr.length + j) (v := u) ?_
      · exact this
      · have hj' : j < xs.length := (List.getElem?_eq_some_iff.1 hj).1
        rw [List.append_assoc, List.getElem?_append_right (by omega), show pr.length + j - pr.length = j by omega, List.getElem?_append_left hj', hj]
theorem T_append {t tx el sz bb m k : Nat} {o1 o2 : Operand} {z v x : Value} {xs ys : List Value} (h1 : ev n e o1 = v) (h2 : ev n e o2 = x) (ht : P.underlying t = some (.slice el)) (hz : tin P el = some (sz, bb, some z)) (hzs : z.cells.size = sz) (hb : 0 < bb)
    (h : Holds w l) (i : Nat) (hi : l[i]? = some (sl el sz v m xs)) (hs : Src P sz tx x k ys w) (hroom : (m + k) * bb ≤ 140737488355328)
    (kk : ∀ v' w', Same w w' → Holds w' (l.set i (sl el sz v' (m + k) (xs ++ ys))) → K v' w') :
    Stp P n e ⟨d, .call { callee := .builtin .append, args := #[o1, o2], argTypes := #[t, tx] }, ty, pos, af, g⟩ w K := by
  obtain ⟨v', w', hr, hsame, hh⟩ := run_append_sl (ty := ty) ht hz hzs hb h i hi hs hroom
  refine .inl ⟨v', w', ?_, kk v' w' hsame hh⟩
  simp only [execOp, resolve, Sem.run_bind, Sem.run_pure, Result.andThen_ok, invoke, builtin]
  simp [h1, h2, hr]

/-! ### Strings and bytes -/
def bytesV (ns : List Int) : List Value := ns.map (Value.int .u8)
theorem T_s2b {s t el : Nat} {x : Operand} {u : ByteArray} {ud : TypeDesc} (hx : ev n e x = .string u) (hs : P.underlying s = some ud) (ht : P.underlying t = some (.slice el)) (he : P.underlying el = some (.int .u8)) (h : Holds w l)
    (k : ∀ b c w', Same w w' → u.size ≤ c → Holds w' (sl el 1 (.slice (some ⟨b, 0, none⟩) u.size c) u.size (byteCells u) :: l) → K (.slice (some ⟨b, 0, none⟩) u.size c) w') :
    Stp P n e ⟨d, .convert s t x, ty, pos, af, g⟩ w K := by
  refine .inl ⟨_, _, ?_, k w.heap.size (grownCap w u.size 0 el) (Lib.bytesWorld w el u) ⟨rfl, rfl, rfl⟩ (grownCap_ge _ _ _ _) ?_⟩
  · simp only [execOp]
    rw [hx]
    exact run_v _ (Lib.run_convert_string_bytes w s t el u hs ht he)
  · have hw : hp (Lib.bytesWorld w el u) = upb (hp w) w.heap.size (.cells (Lib.bytesCells w el u) el ((Lib.bytesCells w el u).size, (Lib.bytesCells w el u).size + 1)) :=
      hp_setBlock _ _ _ _ (Lib.bytesWorld_at_new w el u) (fun c hc => by
        rcases Nat.lt_or_ge c w.heap.size with x | x
        · exact Lib.bytesWorld_at_old w el u c x
        · have h1 : (Lib.bytesWorld w el u).heap.size ≤ c := by rw [Lib.bytesWorld_size]; omega
          rw [Array.getElem?_eq_none h1, Array.getElem?_eq_none x])
    unfold Holds
    rw [hw]
    refine Sat.upb_new h (by simp [hp]) ?_
    refine .inr ⟨w.heap.size, [], List.replicate (grownCap w u.size 0 el - u.size) (Value.int .u8 0), grownCap w u.size 0 el, rfl, by rw [byteCells_length, Nat.mul_one], by simp, grownCap_ge _ _ _ _, ?_⟩
    have hc : Lib.bytesCells w el u = ([] ++ byteCells u ++ List.replicate (grownCap w u.size 0 el - u.size) (Value.int .u8 0)).toArray := by
      apply Array.ext'
      simp [Lib.bytesCells, byteCells]
    refine ⟨((Lib.bytesCells w el u).size, (Lib.bytesCells w el u).size + 1), by rw [← hc]; simp, ?_⟩
    intro i hi ⟨h1, h2⟩
    rw [hc] at h1
    simp only [List.size_toArray] at h1
    omega
end
end Go.Proofs.Ytiblemgccgbhoaa.Gw
set_option linter.unusedVariables false
set_option linter.unusedSimpArgs false
namespace Go.Proofs.Ytiblemgccgbhoaa.Gw
open Go Go.RowKit
section
variable {P : Program} {n : Nat} {e : Env} {w : World} {K : Value → World → Prop} {Q : Exit → Act → World → Prop} {ops : Array Oper} {rest : List Oper} {ds : List Deferred}
  {d : Option Nat} {ty : TypeId} {pos : String} {af : Array Edge} {g : Option (Nat × Bool)} {l : List SP}
theorem S_defer {op : Op} {dd : Deferred} (hr : (execOp (ev n e) ⟨none, op, ty, pos, af, none⟩).run P w = .ok (.defer dd) w) (h : wpList P ops Q rest (mkA n e (dd :: ds)) w) :
    wpList P ops Q (⟨none, op, ty, pos, af, none⟩ :: rest) (mkA n e ds) w :=
  wpList_plain rfl fun K' hK => by
    unfold Oper.wp
    rw [eval_mkA, hr]
    show K' { tmps := (mkA n e ds).tmps, defers := dd :: (mkA n e ds).defers } w
    rw [mkA_defer]
    exact hK _ _ h
theorem Calls.intoD {f : FuncId} {fn : Func} {c : Code} {args : Array Value} {al : List Value} {R : Ending → World → Prop} (hf : P.funcs[f]? = some fn) (hb : fn.body = some c) (hn : fn.ntmps = n) (ha : args = al.toArray)
    (hl : Nat.ble al.length n = true) (h : c.wp P (bodyPostD P fn R) (mkA n (fun t => al.getD t undef) []) w) : Calls P f args w R := by
  subst ha; subst hn
  refine calls_of_wp_defers hf hb ?_
  rw [mkA_args al _ (by simpa using hl)]
  exact h
end
end Go.Proofs.Ytiblemgccgbhoaa.Gw
set_option linter.unusedVariables false
set_option linter.unusedSimpArgs false
namespace Go.Proofs.Ytiblemgccgbhoaa.Gw
open Go Go.RowKit Go.ChangeShapes Go.WideShapes Go.ChangeAt
theorem trodAll_stays {H : Type} {enc : TypeId × Value → H} {P : Program} (hl : laidOutB P = true) {W W' : World} (hb : Below W.heap.size W W') :
    ∀ (ts : List TypeId) (vs : List Value) (ds : List (DataW H)) (ps : List MemPlace), (ts.all fun t => P.readableRec t && decide (t < P.types.size)) = true →
      DataW.TrodAll enc P W 0 (fun _ => true) true ts vs ds ps → (∀ x ∈ ps, x.block < W.heap.size) → DataW.TrodAll enc P W' 0 (fun b => decide (b < W.heap.size)) true ts vs ds ps
  | [], [], [], ps, _, h, _ => h
  | t :: ts, v :: vs, d :: ds, ps, hts, h, hlt => by
    obtain ⟨p, q, h1, h2, rfl⟩ := h
    simp only [List.all_cons, Bool.and_eq_true, decide_eq_true_eq] at hts
    exact ⟨p, q, Below.trod hl hts.1.1 hts.1.2 h1 hb (fun x hx => hlt x (by simp [hx])), trodAll_stays hl hb ts vs ds q (by simpa using hts.2) h2 (fun x hx => hlt x (by simp [hx])), rfl⟩
  | [], [], _ :: _, _, _, h, _ => h.elim
  | [], _ :: _, _, _, _, h, _ => h.elim
  | _ :: _, [], _, _, _, h, _ => h.elim
  | _ :: _, _ :: _, [], _, _, h, _ => h.elim
theorem below_of_holds {W W' : World} {l : List SP} (hs : Same W W') (h : Holds W' (ro (hp W) :: l)) : Below W.heap.size W W' := by
  have hb := h.ro_sub 0 rfl
  have hblk : ∀ k, k < W.heap.size → W'.heap[k]? = W.heap[k]? := fun k hk => by
    have e : hp W k = some W.heap[k] := by simp [hp, hk]
    have := hb k _ e
    simp only [hp] at this
    rw [this]; simp [hk]
  refine ⟨hs.os, hs.tape, hs.output, ?_, hblk⟩
  rcases Nat.lt_or_ge W'.heap.size W.heap.size with h' | h'
  · have := hblk W'.heap.size h'
    rw [Array.getElem?_eq_none (Nat.le_refl _), Array.getElem?_eq_getElem h'] at this
    cases this
  · exact h'
theorem holds_init (W : World) : Holds W [ro (hp W)] :=
  ⟨hp W, (fun _ => none), Sub.rfl' _, (fun _ _ e => by cases e), (fun _ => Or.inr rfl), Sub.rfl' _, trivial⟩
theorem law_calls {P : Program} {f : FuncId} {args : Array Value} {W : World} (h : Tri P f args (hp W) [] fun v post => v = .bool true) :
    Calls P f args W fun e W' => e = .returned (.bool true) ∧ Below W.heap.size W W' :=
  (h W [] (holds_init W)).mono fun e W' ⟨v, post, he, hv, hs, hh⟩ => ⟨by rw [he, hv], below_of_holds hs hh⟩
theorem law_lift {H : Type} {enc : TypeId × Value → H} {C : Checked} {os : Os} {f : FuncId} {fn : Func} {s : ChangeSpec} {tb : TypeId} (own : ownKnob C.prog.godebug = none) (started : os.Started)
    (noInit : C.prog.inits.idxOf? f = none) (hfn : C.prog.funcs[f]? = some fn)
    (witness : ∃ (w : World) (tape : Tape) (i : Input), w.os = os ∧ (w.forCall tape i).Shaped C.prog ∧ i.vars = [] ∧ Input.okWide C.prog (w.forCall tape i) .any w.heap.size f i ∧
      s.pre6 enc C.prog fn [] false (w.forCall tape i).memory i.args ∧ Assume.holds {} C.prog (lone (Frame.enter C.prog f i.args .normal) [] (w.forCall tape i)))
    (hl : laidOutB C.prog = true) (hts : (fn.params.toList.all fun t => C.prog.readableRec t && decide (t < C.prog.types.size)) = true) (hv : s.vars = []) (hrt : fn.resultTypes = #[tb]) (htb : C.prog.underlying tb = some .bool)
    (hs : ∀ ds : List (DataW H), ds.length = fn.params.size → s.fn H ds = { results := [.lit (.bool true)], args := ds })
    (contract : ∀ (W : World) (base : Nat) (args : Array Value) (ds : List (DataW H)) (before : List MemPlace),
      (∀ (j : Nat) t v, fn.params[j]? = some t → args[j]? = some v → Value.okWide C.prog W .any base t v) → DataW.TrodAll enc C.prog W 0 (fun _ => true) true fn.params.toList args.toList ds before →
      (DataW.weightsEach C.prog fn.params.toList ds).all (· ≤ reachBytes) = true →
      Calls C.prog f args W fun e W' => e = .returned (.bool true) ∧ Below W.heap.size W W') :
    ReturnsInHanded {} C os f .any (s.pre6 enc C.prog fn [] false) (s.post enc C.prog fn false true false false) := by
  refine returnsInHanded_of_change_sized own started noInit hfn witness ?_
  intro W base args ds gs before hval hW _ hsz _
  have hW' := hW
  obtain ⟨p, q, hA, hV, rfl, hfz, hnd⟩ := hW
  rw [hv] at hV
  have hgs : gs = [] ∧ q = [] := trodVars_none hV
  obtain ⟨rfl, rfl⟩ := hgs
  have hvt : s.plain.varTypes C.prog = [] := by
    simp only [ChangeSpec.plain, DataSpec.varTypes, hv]
    rfl
  rw [hvt] at hsz
  simp only [List.append_nil] at hsz hW'
  refine (contract W base args ds p hval hA hsz).mono fun e W' ⟨he, hb⟩ => ⟨.bool true, he, ?_⟩
  have hlen : ∀ (ts : List TypeId) (vs : List Value) (ds : List (DataW H)) (ps : List MemPlace), DataW.TrodAll enc C.prog W 0 (fun _ => true) true ts vs ds ps → ds.length = ts.length := by
    intro ts
    induction ts with
    | nil => intro vs ds ps h; cases vs <;> cases ds <;> first | rfl | exact h.elim
    | cons t ts ih =>
      intro vs ds ps h
      cases vs with
      | nil => exact h.elim
      | cons v vs =>
        cases ds with
        | nil => exact h.elim
        | cons d ds => obtain ⟨p, q, _, h2, _⟩ := h; simp [ih vs ds q h2]
  have hd : s.fn H (ds ++ []) = { results := [.lit (.bool true)], args := ds } := by
    rw [List.append_nil]
    exact hs ds (by simpa using hlen _ _ _ _ hA)
  refine ⟨ds, [], p, [], p, [], hW', ?_, ?_, ?_, hb.frame _, fun h => by cases h⟩
  · rw [hd, hrt]
    exact trodAll_mk1 (shut_bool htb true)
  · rw [hd]
    exact trodAll_stays hl hb _ _ _ _ hts hA (fun x hx => hW'.lt x hx)
  · rw [hd, hv]
    rfl
end Go.Proofs.Ytiblemgccgbhoaa.Gw
set_option linter.unusedVariables false
set_option linter.unusedSimpArgs false
namespace Go.Proofs.Ytiblemgccgbhoaa.Gw
open Go Go.RowKit
section
variable {P : Program} {n : Nat} {e : Env} {w : World} {K : Value → World → Prop} {Q : Exit → Act → World → Prop} {ops : Array Oper} {rest : List Oper} {ds : List Deferred}
  {d : Option Nat} {ty : TypeId} {pos : String} {af : Array Edge} {g : Option (Nat × Bool)} {l : List SP}
section
variable {dd : Nat} {xs ys : Array Value} {f : Field} {fs : List Field} {a b : Value} {r s : Bool}
theorem eqf_nil : (Op.eqFields dd xs ys []).run P w = .ok true w := by simp [Op.eqFields]
theorem eqf_cons (hn : (f.name == "_") = false) (ha : (part f.type xs f.offset).run P w = .ok a w) (hb : (part f.type ys f.offset).run P w = .ok b w) (he : (Op.equalIn dd f.type a b).run P w = .ok r w) (hr : (Op.eqFields dd xs ys fs).run P w = .ok s w) :
    (Op.eqFields dd xs ys (f :: fs)).run P w = .ok (r && s) w := by
  have hn' : f.name ≠ "_" := by simpa using hn
  rw [Op.eqFields]
  simp only [if_pos hn', Sem.run_bind, ha, hb, he, Result.andThen_ok]
  cases r
  · simp
  · simpa using hr
theorem eq_int {t : TypeId} {k : IntKind} {x y : Int} (hu : P.underlying t = some (.int k)) : (Op.equalIn (dd + 1) t (.int k x) (.int k y)).run P w = .ok (decide (x = y)) w := by
  simp only [Op.equalIn, Sem.run_bind, run_underlying hu, Result.andThen_ok, if_true, Sem.run_pure]
  by_cases h : x = y <;> simp [h]
theorem eq_bool {t : TypeId} {x y : Bool} (hu : P.underlying t = some .bool) : (Op.equalIn (dd + 1) t (.bool x) (.bool y)).run P w = .ok (x == y) w := by
  simp only [Op.equalIn, Sem.run_bind, run_underlying hu, Result.andThen_ok, Sem.run_pure]
theorem eq_struct {t : TypeId} {fs : Array Field} (hu : P.underlying t = some (.struct fs)) (hp : P.stoodInHeld t = false) (h : (Op.eqFields dd xs ys fs.toList).run P w = .ok r w) :
    (Op.equalIn (dd + 1) t (.agg xs) (.agg ys)).run P w = .ok r w := by
  have hf : P.fieldsOf t = fs := by simp [Program.fieldsOf, hu]
  rw [run_equalIn_struct (P := P) w dd t xs ys (by rw [hf]; exact hu) hp, hf]
  exact h
end
theorem x_eqS {t u : TypeId} {x y : Operand} {xs ys : Array Value} {r : Bool} (hx : ev n e x = .agg xs) (hy : ev n e y = .agg ys) (hq : P.eqGuardType P.depth t = false) (h : (Op.equalIn (9999 + 1) t (.agg xs) (.agg ys)).run P w = .ok r w) :
    (execOp (ev n e) ⟨d, .binOp .eql t x y u, ty, pos, af, g⟩).run P w = .ok (.value (.bool r)) w := by
  simp only [execOp]
  rw [hx, hy]
  refine run_v _ ?_
  have h1 : (eqGuard .eql t x y (.agg xs) (.agg ys)).run P w = .ok () w := by simp [eqGuard, hq]
  simp only [Sem.run_bind, h1, Result.andThen_ok, binOp]
  have h2 : (Op.equal t (.agg xs) (.agg ys)).run P w = .ok r w := h
  simp [h2]
theorem x_neqS {t u : TypeId} {x y : Operand} {xs ys : Array Value} {r : Bool} (hx : ev n e x = .agg xs) (hy : ev n e y = .agg ys) (hq : P.eqGuardType P.depth t = false) (h : (Op.equalIn (9999 + 1) t (.agg xs) (.agg ys)).run P w = .ok r w) :
    (execOp (ev n e) ⟨d, .binOp .neq t x y u, ty, pos, af, g⟩).run P w = .ok (.value (.bool !r)) w := by
  simp only [execOp]
  rw [hx, hy]
  refine run_v _ ?_
  have h1 : (eqGuard .neq t x y (.agg xs) (.agg ys)).run P w = .ok () w := by simp [eqGuard, hq]
  simp only [Sem.run_bind, h1, Result.andThen_ok, binOp]
  have h2 : (Op.equal t (.agg xs) (.agg ys)).run P w = .ok r w := h
  simp [h2]
theorem x_eqB {t u : TypeId} {x y : Operand} {a b : Bool} (hx : ev n e x = .bool a) (hy : ev n e y = .bool b) (hu : P.underlying t = some .bool) :
    (execOp (ev n e) ⟨d, .binOp .eql t x y u, ty, pos, af, g⟩).run P w = .ok (.value (.bool (a == b))) w := by
  simp only [execOp]
  rw [hx, hy]
  refine run_v _ ?_
  have h1 : (eqGuard .eql t x y (.bool a) (.bool b)).run P w = .ok () w := by simp [eqGuard]
  have h2 : (Op.equal t (.bool a) (.bool b)).run P w = .ok (a == b) w := eq_bool (dd := 9999) hu
  simp only [Sem.run_bind, h1, Result.andThen_ok, binOp]
  simp [h2]
end
end Go.Proofs.Ytiblemgccgbhoaa.Gw
set_option linter.unusedVariables false
set_option linter.unusedSimpArgs false
namespace Go.Proofs.Ytiblemgccgbhoaa.Gw
open Go Go.RowKit
section
variable {P : Program} {n : Nat} {e : Env} {w : World} {K : Value → World → Prop} {Q : Exit → Act → World → Prop} {ops : Array Oper} {rest : List Oper} {ds : List Deferred}
  {d : Option Nat} {ty : TypeId} {pos : String} {af : Array Edge} {g : Option (Nat × Bool)} {l : List SP}
/-- In what is only read, block b holds xs from place off on. -/
def RC (R : HP) (b off : Nat) (xs : List Value) : Prop := ∀ j u, xs[j]? = some u → ∃ cs T fr, R b = some (.cells cs T fr) ∧ cs[off + j]? = some u
theorem RC.cell {R : HP} {b off : Nat} {xs : List Value} (h : RC R b off xs) (hs : Sub R (hp w)) {j : Nat} {u : Value} (hj : xs[j]? = some u) : w.cell? ⟨b, off + j, none⟩ = some u := by
  obtain ⟨cs, T, fr, hb, hc⟩ := h j u hj
  have := hs _ _ hb
  rw [cell_of_row w b (off + j) cs T fr this]
  exact hc
theorem RC.mono {R R' : HP} {b off : Nat} {xs : List Value} (h : RC R b off xs) (hs : Sub R R') : RC R' b off xs := fun j u hj => by
  obtain ⟨cs, T, fr, hb, hc⟩ := h j u hj
  exact ⟨cs, T, fr, hs _ _ hb, hc⟩
theorem RC.drop {R : HP} {b off : Nat} {xs : List Value} (h : RC R b off xs) (k : Nat) : RC R b (off + k) (xs.drop k) := fun j u hj => by
  rw [List.getElem?_drop] at hj
  obtain ⟨cs, T, fr, hb, hc⟩ := h _ u hj
  exact ⟨cs, T, fr, hb, by rw [Nat.add_assoc]; exact hc⟩
theorem RC.take {R : HP} {b off : Nat} {xs : List Value} (h : RC R b off xs) (k : Nat) : RC R b off (xs.take k) := fun j u hj => by
  rw [List.getElem?_take] at hj
  split at hj
  · exact h j u hj
  · cases hj
theorem RC.cells {R : HP} {b off : Nat} {xs : List Value} (h : RC R b off xs) (hs : Sub R (hp w)) (j : Nat) {vs : List Value} (hv : (xs.drop j).take vs.length = vs) :
    ∀ i v, vs[i]? = some v → w.cell? ((Addr.mk b (off + j) none).add i) = some v := by
  intro i v hi
  rw [add_mk, Nat.add_assoc]
  refine h.cell hs ?_
  rw [← hv] at hi
  rw [List.getElem?_take] at hi
  split at hi
  · rw [List.getElem?_drop] at hi; exact hi
  · cases hi
theorem Holds.ro_at (h : Holds w l) (i : Nat) {R : HP} (hi : l[i]? = some (ro R)) : Sub R (hp w) := h.ro_sub i hi
/-- The value v is a slice of m elements (of sz cells), whose cells are xs, in what is only read. -/
def RS (R : HP) (sz : Nat) (v : Value) (m : Nat) (xs : List Value) : Prop := xs.length = m * sz ∧ ∃ a cap, v = .slice a m cap ∧ m ≤ cap ∧ (0 < m → ∃ b off, a = some ⟨b, off, none⟩ ∧ RC R b off xs)
theorem RS.nil (R : HP) (sz : Nat) : RS R sz (.slice none 0 0) 0 [] := ⟨by simp, none, 0, rfl, Nat.le_refl _, fun h => absurd h (by omega)⟩
theorem RS.mono {R R' : HP} {sz m : Nat} {v : Value} {xs : List Value} (h : RS R sz v m xs) (hs : Sub R R') : RS R' sz v m xs := by
  obtain ⟨h1, a, cap, h2, h3, h4⟩ := h
  exact ⟨h1, a, cap, h2, h3, fun hm => by obtain ⟨b, off, e1, e2⟩ := h4 hm; exact ⟨b, off, e1, e2.mono hs⟩⟩
theorem RS.len {R : HP} {sz m : Nat} {v : Value} {xs : List Value} (h : RS R sz v m xs) : ∃ a cap, v = .slice a m cap ∧ m ≤ cap := by
  obtain ⟨h1, a, cap, h2, h3, h4⟩ := h
  exact ⟨a, cap, h2, h3⟩
theorem RS.at_ {R : HP} {sz m : Nat} {v : Value} {xs : List Value} (h : RS R sz v m xs) (hm : 0 < m) : ∃ b off cap, v = .slice (some ⟨b, off, none⟩) m cap ∧ m ≤ cap ∧ RC R b off xs := by
  obtain ⟨h1, a, cap, h2, h3, h4⟩ := h
  obtain ⟨b, off, rfl, e2⟩ := h4 hm
  exact ⟨b, off, cap, h2, h3, e2⟩
theorem RS.sub {R : HP} {sz m cap k : Nat} {a : Option Addr} {xs : List Value} (h : RS R sz (.slice a m cap) m xs) (hk : k ≤ m) : RS R sz (.slice a k cap) k (xs.take (k * sz)) := by
  obtain ⟨h1, a', cap', h2, h3, h4⟩ := h
  injection h2 with e1 e2 e3
  subst e1; subst e3
  refine ⟨by rw [List.length_take, h1]; exact Nat.min_eq_left (Nat.mul_le_mul_right _ hk), a, cap, rfl, by omega, fun hm => ?_⟩
  obtain ⟨b, off, e1, e2⟩ := h4 (by omega)
  exact ⟨b, off, e1, e2.take _⟩
theorem sl_RS {T sz m : Nat} {v : Value} {xs : List Value} {h R : HP} (a : sl T sz v m xs h) (hs : Sub h R) : RS R sz v m xs := by
  rcases a with ⟨rfl, rfl, rfl⟩ | ⟨b, pr, sp, cap, rfl, e2, e3, e4, fr, hb, hf⟩
  · exact RS.nil R sz
  · refine ⟨e2, _, cap, rfl, e4, fun _ => ⟨b, pr.length, rfl, fun j u hj => ⟨_, _, _, hs _ _ hb, ?_⟩⟩⟩
    have hj' : j < xs.length := (List.getElem?_eq_some_iff.1 hj).1
    simp only [List.getElem?_toArray]
    rw [List.append_assoc, List.getElem?_append_right (by omega), show pr.length + j - pr.length = j by omega, List.getElem?_append_left hj', hj]
theorem cl_RC {b T : Nat} {xs : List Value} {h R : HP} (a : cl b T xs h) (hs : Sub h R) : RC R b 0 xs := fun j u hj => by
  obtain ⟨fr, hb, _⟩ := a
  exact ⟨_, _, _, hs _ _ hb, by simpa using hj⟩
theorem RS.src {R : HP} {sz m t e' : Nat} {v : Value} {xs : List Value} (h : RS R sz v m xs) (hs : Sub R (hp w)) (hk : P.underlying t = some (.slice e')) (h1 : ∀ u ∈ xs, u.oneCell' = true) : Src P sz t v m xs w := by
  obtain ⟨hl, a, cap, rfl, h3, h4⟩ := h
  by_cases hm : 0 < m
  · obtain ⟨b, off, rfl, e2⟩ := h4 hm
    exact Src.ofSlice w hk _ _ _ _ hl (fun j u hj => by rw [add_mk]; exact e2.cell hs hj) h1
  · have : m = 0 := by omega
    subst this
    have : xs = [] := by simpa using hl
    subst this
    cases a with
    | none => exact Src.ofNil w hk cap
    | some a => exact Src.ofSlice w hk _ _ _ _ hl (fun j u hj => by simp at hj) h1
theorem x_lenRS {R : HP} {argO : Operand} {t el : TypeId} {sz m : Nat} {v : Value} {xs : List Value} (hx : ev n e argO = v) (h : RS R sz v m xs) (hu : P.underlying t = some (.slice el)) :
    (execOp (ev n e) ⟨d, .call { callee := .builtin .len, args := #[argO], argTypes := #[t] }, ty, pos, af, g⟩).run P w = .ok (.value (.int .i64 m)) w := by
  obtain ⟨a, cap, rfl, _⟩ := h.len
  exact x_lenS hx hu
/-! ### A slice of one's own -/
theorem Holds.sl_open (h : Holds w l) (i : Nat) {T sz m : Nat} {v : Value} {xs : List Value} (hi : l[i]? = some (sl T sz v m xs)) (hm : 0 < m) :
    ∃ b pr sp cap, v = .slice (some ⟨b, pr.length, none⟩) m cap ∧ xs.length = m * sz ∧ sp.length = (cap - m) * sz ∧ m ≤ cap ∧ Holds w (l.set i (cl b T (pr ++ xs ++ sp))) := by
  rcases h.sl_at i hi with ⟨_, h0, _⟩ | h
  · omega
  · exact h
theorem x_lenSl {argO : Operand} {t el : TypeId} {T sz m : Nat} {v : Value} {xs : List Value} (hx : ev n e argO = v) (h : Holds w l) (i : Nat) (hi : l[i]? = some (sl T sz v m xs)) (hu : P.underlying t = some (.slice el)) :
    (execOp (ev n e) ⟨d, .call { callee := .builtin .len, args := #[argO], argTypes := #[t] }, ty, pos, af, g⟩).run P w = .ok (.value (.int .i64 m)) w := by
  obtain ⟨_, a, cap, rfl, _⟩ := h.sl_len i hi
  exact x_lenS hx hu
theorem Holds.sl_RSw (h : Holds w l) (i : Nat) {T sz m : Nat} {v : Value} {xs : List Value} (hi : l[i]? = some (sl T sz v m xs)) : RS (hp w) sz v m xs := by
  obtain ⟨h', s, a⟩ := Sat.at i hi h
  exact sl_RS a s
/-! ### Lending what is ours to a call that only reads -/
theorem Tri.lend {f : FuncId} {args : Array Value} {R : HP} {A : SP} {pre : List SP} {Qc : Value → List SP → Prop} (h : ∀ h0 : HP, A h0 → Dis R h0 → Tri P f args (un R h0) pre Qc) :
    Tri P f args R (A :: pre) fun v post => ∃ post', post = A :: post' ∧ Qc v post' := by
  intro w F H
  obtain ⟨h0, a, dd, H'⟩ := Holds.lend H
  refine (h h0 a dd w F H').mono fun r w' ⟨v, post, er, q, s, hh⟩ => ⟨v, A :: post, er, ⟨post, rfl, q⟩, s, ?_⟩
  exact Holds.back a dd hh
end
end Go.Proofs.Ytiblemgccgbhoaa.Gw
set_option linter.unusedVariables false
set_option linter.unusedSimpArgs false
namespace Go.Proofs.Ytiblemgccgbhoaa.Gw
open Go Go.RowKit Go.ChangeShapes Go.WideShapes Go.ChangeAt
section
variable {H : Type} {enc : TypeId × Value → H} {P : Program} {w : World} {base : Nat} {spare : Nat → Bool} {held : Bool} {t : TypeId} {fuel n : Nat} {cs : List Value} {c : Value}
/-- These cells read as a value of type t. -/
def Reads (enc : TypeId × Value → H) (P : Program) (w : World) (base : Nat) (spare : Nat → Bool) (held : Bool) (t : TypeId) (cs : List Value) : Prop := ∃ fuel y, DataW.trod enc P w base spare held fuel t cs = some y
theorem inv_int {k : IntKind} (hu : P.underlying t = some (.int k)) (h : Reads enc P w base spare held t [c]) : ∃ a, c = .int k a ∧ (Lit.int k a).wf = true := by
  obtain ⟨fuel, y, h⟩ := h
  obtain ⟨a, e, _, wf⟩ := DataW.trod_int hu h
  simp at e
  exact ⟨a, e, wf⟩
theorem mapM_all {α β : Type} {f : α → Option β} : ∀ {l : List α} {r : List β}, l.mapM f = some r → ∀ x ∈ l, ∃ y, f x = some y
  | [], _, _, x, hx => by cases hx
  | a :: l, r, h, x, hx => by
    rw [List.mapM_cons] at h
    cases ha : f a with
    | none => rw [ha] at h; cases h
    | some b =>
      rw [ha] at h
      cases hl : l.mapM f with
      | none => rw [hl] at h; cases h
      | some bs =>
        rcases List.mem_cons.1 hx with rfl | hx
        · exact ⟨b, ha⟩
        · exact mapM_all hl x hx
theorem reads_of_trod {v : Value} {d : DataW H} {ps : List MemPlace} (h : DataW.Trod enc P w base spare held t v d ps) : Reads enc P w base spare held t v.cells.toList := by
  obtain ⟨fuel, h⟩ := h
  exact ⟨fuel, _, h⟩
end
end Go.Proofs.Ytiblemgccgbhoaa.Gw
set_option linter.unusedVariables false
namespace Go.Proofs.Ytiblemgccgbhoaa
open Go Gw
theorem foll : Try.prog.follows .mixedOrders = true := by kernel_rfl
theorem z2 : tin Try.prog 2 = some (1, 8, some (Value.int .i64 0)) := by kernel_rfl
theorem z4 : tin Try.prog 4 = some (1, 1, some (Value.bool false)) := by kernel_rfl
theorem z24 : tin Try.prog 24 = some (1, 24, some (Value.slice none 0 0)) := by kernel_rfl
theorem z31 : tin Try.prog 31 = some (2, 16, some (Value.agg #[(Value.int .i64 0), (Value.int .i64 0)])) := by kernel_rfl
theorem z32 : tin Try.prog 32 = some (1, 24, some (Value.slice none 0 0)) := by kernel_rfl
theorem z34 : tin Try.prog 34 = some (3, 40, some (Value.agg #[(Value.int .i64 0), (Value.int .i64 0), (Value.slice none 0 0)])) := by kernel_rfl
theorem z39 : tin Try.prog 39 = some (7, 56, some (Value.agg #[(Value.int .i64 0), (Value.int .i64 0), (Value.int .i64 0), (Value.int .i64 0), (Value.int .i64 0), (Value.int .i64 0), (Value.int .i64 0)])) := by kernel_rfl
theorem z41 : tin Try.prog 41 = some (1, 24, some (Value.slice none 0 0)) := by kernel_rfl
theorem z43 : tin Try.prog 43 = some (10, 112, some (Value.agg #[(Value.bool false), (Value.int .i64 0), (Value.int .i64 0), (Value.int .i64 0), (Value.int .i64 0), (Value.int .i64 0), (Value.slice none 0 0), (Value.int .i64 0), (Value.int .i64 0), (Value.slice none 0 0)])) := by kernel_rfl
theorem z55 : tin Try.prog 55 = some (1, 8, some (Value.agg #[(Value.pointer none)])) := by kernel_rfl
theorem z58 : tin Try.prog 58 = some (2, 16, some (Value.agg #[(Value.int .i64 0), (Value.int .i64 0)])) := by kernel_rfl
theorem z59 : tin Try.prog 59 = some (1, 24, some (Value.slice none 0 0)) := by kernel_rfl
theorem z61 : tin Try.prog 61 = some (3, 40, some (Value.agg #[(Value.int .i64 0), (Value.int .i64 0), (Value.slice none 0 0)])) := by kernel_rfl
theorem z66 : tin Try.prog 66 = some (6, 48, some (Value.agg #[(Value.int .i64 0), (Value.int .i64 0), (Value.int .i64 0), (Value.int .i64 0), (Value.int .i64 0), (Value.bool false)])) := by kernel_rfl
theorem z68 : tin Try.prog 68 = some (4, 48, some (Value.agg #[(Value.int .i64 0), (Value.int .i64 0), (Value.int .i64 0), (Value.slice none 0 0)])) := by kernel_rfl
theorem z80 : tin Try.prog 80 = some (1, 24, some (Value.slice none 0 0)) := by kernel_rfl
theorem z83 : tin Try.prog 83 = some (4, 48, some (Value.agg #[(Value.int .i64 0), (Value.int .i64 0), (Value.int .i64 0), (Value.slice none 0 0)])) := by kernel_rfl
theorem z102 : tin Try.prog 102 = some (1, 24, some (Value.slice none 0 0)) := by kernel_rfl
theorem z106 : tin Try.prog 106 = some (4, 48, some (Value.agg #[(Value.int .i64 0), (Value.int .i64 0), (Value.int .i64 0), (Value.slice none 0 0)])) := by kernel_rfl
theorem cb6 : callable Try.prog 6 = true := by kernel_rfl
theorem cb7 : callable Try.prog 7 = true := by kernel_rfl
theorem cb8 : callable Try.prog 8 = true := by kernel_rfl
theorem cb9 : callable Try.prog 9 = true := by kernel_rfl
theorem cb10 : callable Try.prog 10 = true := by kernel_rfl
theorem cb11 : callable Try.prog 11 = true := by kernel_rfl
theorem cb12 : callable Try.prog 12 = true := by kernel_rfl
theorem cb15 : callable Try.prog 15 = true := by kernel_rfl
theorem cb16 : callable Try.prog 16 = true := by kernel_rfl
theorem cb17 : callable Try.prog 17 = true := by kernel_rfl
theorem cb18 : callable Try.prog 18 = true := by kernel_rfl
theorem cb19 : callable Try.prog 19 = true := by kernel_rfl
theorem cb20 : callable Try.prog 20 = true := by kernel_rfl
theorem cb21 : callable Try.prog 21 = true := by kernel_rfl
theorem cb22 : callable Try.prog 22 = true := by kernel_rfl
theorem cb23 : callable Try.prog 23 = true := by kernel_rfl
theorem cb24 : callable Try.prog 24 = true := by kernel_rfl
theorem cb26 : callable Try.prog 26 = true := by kernel_rfl
theorem cb27 : callable Try.prog 27 = true := by kernel_rfl
theorem cb28 : callable Try.prog 28 = true := by kernel_rfl
theorem cb29 : callable Try.prog 29 = true := by kernel_rfl
theorem cb30 : callable Try.prog 30 = true := by kernel_rfl
theorem cb31 : callable Try.prog 31 = true := by kernel_rfl
theorem cb32 : callable Try.prog 32 = true := by kernel_rfl
theorem cb33 : callable Try.prog 33 = true := by kernel_rfl
theorem cb34 : callable Try.prog 34 = true := by kernel_rfl
theorem cb36 : callable Try.prog 36 = true := by kernel_rfl
theorem cb37 : callable Try.prog 37 = true := by kernel_rfl
theorem cb40 : callable Try.prog 40 = true := by kernel_rfl
theorem cb41 : callable Try.prog 41 = true := by kernel_rfl
theorem cb42 : callable Try.prog 42 = true := by kernel_rfl
theorem cb43 : callable Try.prog 43 = true := by kernel_rfl
theorem cb44 : callable Try.prog 44 = true := by kernel_rfl
theorem cb45 : callable Try.prog 45 = true := by kernel_rfl
theorem cb46 : callable Try.prog 46 = true := by kernel_rfl
theorem cb48 : callable Try.prog 48 = true := by kernel_rfl
theorem cb49 : callable Try.prog 49 = true := by kernel_rfl
theorem cb50 : callable Try.prog 50 = true := by kernel_rfl
theorem cb52 : callable Try.prog 52 = true := by kernel_rfl
theorem cb53 : callable Try.prog 53 = true := by kernel_rfl
theorem cb54 : callable Try.prog 54 = true := by kernel_rfl
theorem cb55 : callable Try.prog 55 = true := by kernel_rfl
theorem cb58 : callable Try.prog 58 = true := by kernel_rfl
theorem cb59 : callable Try.prog 59 = true := by kernel_rfl
theorem cb60 : callable Try.prog 60 = true := by kernel_rfl
theorem cb62 : callable Try.prog 62 = true := by kernel_rfl
theorem cb63 : callable Try.prog 63 = true := by kernel_rfl
theorem cb64 : callable Try.prog 64 = true := by kernel_rfl
theorem cb65 : callable Try.prog 65 = true := by kernel_rfl
theorem cb68 : callable Try.prog 68 = true := by kernel_rfl
theorem cb69 : callable Try.prog 69 = true := by kernel_rfl
theorem cb70 : callable Try.prog 70 = true := by kernel_rfl
theorem cb71 : callable Try.prog 71 = true := by kernel_rfl
theorem cb72 : callable Try.prog 72 = true := by kernel_rfl
theorem cb73 : callable Try.prog 73 = true := by kernel_rfl
theorem cb74 : callable Try.prog 74 = true := by kernel_rfl
theorem cb75 : callable Try.prog 75 = true := by kernel_rfl
theorem cb76 : callable Try.prog 76 = true := by kernel_rfl
theorem cb85 : callable Try.prog 85 = true := by kernel_rfl
theorem cb86 : callable Try.prog 86 = true := by kernel_rfl
end Go.Proofs.Ytiblemgccgbhoaa
set_option linter.unusedVariables false
set_option linter.unusedSimpArgs false
namespace Go.Proofs.Ytiblemgccgbhoaa.Gw
open Go Go.RowKit
section
variable {P : Program} {n : Nat} {e : Env} {w : World} {K : Value → World → Prop} {Q : Exit → Act → World → Prop} {ops : Array Oper} {rest : List Oper} {ds : List Deferred}
  {d : Option Nat} {ty : TypeId} {pos : String} {af : Array Edge} {g : Option (Nat × Bool)} {l : List SP}
/-- Where a slice's row lies. -/
def sb : Value → Nat
  | .slice (some ⟨b, _, _⟩) _ _ => b
  | _ => 0
def so : Value → Nat
  | .slice (some ⟨_, o, _⟩) _ _ => o
  | _ => 0
theorem RS.rc {R : HP} {sz m : Nat} {v : Value} {xs : List Value} (h : RS R sz v m xs) : RC R (sb v) (so v) xs := by
  obtain ⟨hl, a, cap, rfl, h3, h4⟩ := h
  by_cases hm : 0 < m
  · obtain ⟨b, off, rfl, e2⟩ := h4 hm
    exact e2
  · have : m = 0 := by omega
    subst this
    have : xs = [] := by simpa using hl
    subst this
    intro j u hj
    simp at hj
theorem RS.val {R : HP} {sz m : Nat} {v : Value} {xs : List Value} (h : RS R sz v m xs) (hm : 0 < m) : ∃ cap, v = .slice (some ⟨sb v, so v, none⟩) m cap := by
  obtain ⟨hl, a, cap, rfl, h3, h4⟩ := h
  obtain ⟨b, off, rfl, e2⟩ := h4 hm
  exact ⟨cap, rfl⟩
theorem RS.set_ {R : HP} {sz m m' : Nat} {v : Value} {xs xs' : List Value} (h : RS R sz v m xs) (hx : xs = xs') (hm : m = m') : RS R sz v m' xs' := by subst hx; subst hm; exact h
theorem x_idxRS {R : HP} {t el : TypeId} {x y : Operand} {m i sz bb : Nat} {v : Value} {xs : List Value} {z : Option Value} {k' : IntKind} {p : Addr} {ii : Int} (hx : ev n e x = v) (h : RS R sz v m xs) (hy : ev n e y = .int k' ii)
    (hu : P.underlying t = some (.slice el)) (hz : tin P el = some (sz, bb, z)) (h0 : 0 ≤ ii) (hi : ii < m) (hn : ii.toNat = i) (hp : (⟨sb v, so v + i * sz, none⟩ : Addr) = p) :
    (execOp (ev n e) ⟨d, .indexAddr t x y, ty, pos, af, g⟩).run P w = .ok (.value (.pointer (some p))) w := by
  obtain ⟨cap, hv⟩ := h.val (by omega)
  exact x_indexAddr (hx.trans hv) hy hu hz h0 hi hn hp
theorem fm_len {α : Type} {f : α → List Value} {n : Nat} (hn : ∀ x, (f x).length = n) (l : List α) : (l.flatMap f).length = l.length * n := by
  induction l with
  | nil => simp
  | cons a l ih => rw [List.flatMap_cons, List.length_append, hn, ih, List.length_cons, Nat.add_mul]; omega
theorem fm_drop {α : Type} {f : α → List Value} {n : Nat} (hn : ∀ x, (f x).length = n) : ∀ {l : List α} {k : Nat} {x : α}, l[k]? = some x → (l.flatMap f).drop (k * n) = f x ++ (l.drop (k + 1)).flatMap f
  | [], k, x, h => by simp at h
  | a :: l, 0, x, h => by
    simp only [List.getElem?_cons_zero, Option.some.injEq] at h
    subst h
    simp
  | a :: l, k + 1, x, h => by
    have ih := fm_drop hn (l := l) (k := k) (x := x) (by simpa using h)
    rw [List.flatMap_cons, Nat.add_mul, Nat.one_mul, Nat.add_comm, ← List.drop_drop, List.drop_left' (hn a), ih]
    simp
theorem fm_cell {α : Type} {f : α → List Value} {n : Nat} (hn : ∀ x, (f x).length = n) {l : List α} {k : Nat} {x : α} (hk : l[k]? = some x) {i : Nat} {u : Value} (hu : (f x)[i]? = some u) : (l.flatMap f)[k * n + i]? = some u := by
  rw [← List.getElem?_drop, fm_drop hn hk, List.getElem?_append_left (List.getElem?_eq_some_iff.1 hu).1]
  exact hu
theorem fm_cells {α : Type} {f : α → List Value} {n : Nat} (hn : ∀ x, (f x).length = n) {l : List α} {k : Nat} {x : α} (hk : l[k]? = some x) {i : Nat} {vs : List Value} (hv : ((f x).drop i).take vs.length = vs) :
    ((l.flatMap f).drop (k * n + i)).take vs.length = vs := by
  have hlen : vs.length ≤ ((f x).drop i).length := by
    have := congrArg List.length hv
    rw [List.length_take] at this
    omega
  rw [← List.drop_drop, fm_drop hn hk, List.drop_append, List.take_append_of_le_length hlen]
  exact hv
theorem elem_at {α : Type} (l : List α) (k : Nat) (h : k < l.length) : ∃ x, l[k]? = some x ∧ x ∈ l := ⟨l[k], List.getElem?_eq_getElem h, List.getElem_mem h⟩
theorem Holds.freeze (h : Holds w l) (i : Nat) {A : SP} (hi : l[i]? = some A) : ∃ R0 : HP, A R0 ∧ Holds w (l.set i (ro R0)) := by
  obtain ⟨h1, k, s, t, dd, a, r⟩ := Sat.bring i hi h
  refine ⟨h1, a, Sat.back i (A := ro h1) (by simp [(List.getElem?_eq_some_iff.1 hi).1]) ?_⟩
  rw [List.eraseIdx_set_eq]
  exact ⟨h1, k, s, t, dd, Sub.rfl' _, r⟩
/-- A piece of ours goes to what is only read beside. -/
theorem Holds.gift {R1 : HP} {A : SP} (h : Holds w (ro R1 :: A :: l)) : ∃ R', Sub R1 R' ∧ (∃ R0, A R0 ∧ Sub R0 R') ∧ Holds w (ro R' :: l) := by
  obtain ⟨h0, a, dd, hh⟩ := Holds.lend h
  exact ⟨un R1 h0, Sub.un_left _ _, ⟨h0, a, Sub.un_right dd⟩, hh⟩
theorem RS.one {R : HP} {sz m : Nat} {v : Value} {xs : List Value} (h : RS R sz v m xs) : v.oneCell' = true := by
  obtain ⟨a, cap, rfl, _⟩ := h.len
  rfl
theorem Holds.sl_one (h : Holds w l) (i : Nat) {T sz m : Nat} {v : Value} {xs : List Value} (hi : l[i]? = some (sl T sz v m xs)) : v.oneCell' = true := by
  obtain ⟨_, a, cap, rfl, _⟩ := h.sl_len i hi
  rfl
/-! ### A guard on what was not done -/
theorem yielded_undef {lo : List Oper} {j dj : Nat} (hj : (lo[j]?).bind (·.dst) = some dj) (hn : Nat.blt dj n = true) (hb : e dj = undef) : yielded lo.toArray (mkA n e ds).tmps j = none := by
  unfold yielded
  rw [List.getElem?_toArray, hj]
  have hn' : dj < n := by simpa using hn
  simp only [Option.bind_some, mkA]
  simp [hn', hb, undef]
theorem S_noU {lo : List Oper} {dd j dj : Nat} {c : Bool} {op : Op} (hj : (lo[j]?).bind (·.dst) = some dj) (hn : Nat.blt dj n = true) (hb : e dj = undef)
    (h : wpList P lo.toArray Q rest (mkA n (upd e dd undef) ds) w) :
    wpList P lo.toArray Q (⟨some dd, op, ty, pos, af, some (j, c)⟩ :: rest) (mkA n e ds) w :=
  wpList_step fun K' hK => by
    rw [if_neg (by simp [Region.wanted, yielded_undef (ds := ds) hj hn hb])]
    dsimp only
    rw [put_mkA]
    exact hK _ _ h
theorem A_takeNoU {lo : List Oper} {S : World → Prop} {fuel : Nat} {ls ls' : Array Bool} (i : Nat) {dd j dj : Nat} {c : Bool} {op : Op} (hi : lo[i]? = some ⟨some dd, op, ty, pos, af, some (j, c)⟩) (hs : Region.noSelect lo.toArray = true)
    (hf : Region.free .any lo.toArray ls i = true) (hr : (Region.ready .any lo.toArray ls).contains i = true) (hl : ls.setIfInBounds i true = ls') (hQ : ∀ c a w, Q (.panic c) (a.put (some dd) undef) w → Q (.panic c) a w)
    (hj : (lo[j]?).bind (·.dst) = some dj) (hn : Nat.blt dj n = true) (hb : e dj = undef) (hS : S w)
    (h : wpAnyH P .any lo.toArray Q S fuel ls' (mkA n (upd e dd undef) ds) w) : wpAnyH P .any lo.toArray Q S (fuel + 1) ls (mkA n e ds) w := by
  subst hl
  have hi : lo.toArray[i]? = _ := (List.getElem?_toArray ..).trans hi
  refine wpAnyH_take hi hs hf hr hQ (.inr ⟨by simp [Region.wanted, yielded_undef (ds := ds) hj hn hb], rfl⟩) hS ?_
  rw [put_mkA]; exact h
end
end Go.Proofs.Ytiblemgccgbhoaa.Gw
set_option linter.unusedVariables false
set_option linter.unusedSimpArgs false
namespace Go.Proofs.Ytiblemgccgbhoaa.Gw
open Go Go.RowKit Go.ChangeShapes Go.WideShapes Go.ChangeAt
section
variable {H : Type} {enc : TypeId × Value → H} {P : Program} {w : World} {base : Nat} {spare : Nat → Bool} {held : Bool} {t : TypeId} {fuel n : Nat} {cs : List Value} {c : Value}
/-- These cells read as a value of type t, with so much fuel. -/
def ReadsF (enc : TypeId × Value → H) (P : Program) (w : World) (base : Nat) (spare : Nat → Bool) (held : Bool) (fuel : Nat) (t : TypeId) (cs : List Value) : Prop := ∃ y, DataW.trod enc P w base spare held fuel t cs = some y
theorem ReadsF.reads (h : ReadsF enc P w base spare held fuel t cs) : Reads enc P w base spare held t cs := ⟨fuel, h⟩
theorem Reads.some_ (h : Reads enc P w base spare held t cs) : ∃ fuel, ReadsF enc P w base spare held fuel t cs := h
theorem ReadsF.zero (h : ReadsF enc P w base spare held 0 t cs) : False := by
  obtain ⟨y, h⟩ := h
  simp [DataW.trod] at h
theorem inv_structF {fs : Array Field} (hu : P.underlying t = some (.struct fs)) (h : ReadsF enc P w base spare held (fuel + 1) t cs) :
    cs.length = P.cellsOf t ∧ ∀ (i : Nat) (f : Field), fs[i]? = some f → ReadsF enc P w base spare held fuel f.type ((cs.drop f.offset).take (P.cellsOf f.type)) := by
  obtain ⟨y, h⟩ := h
  unfold DataW.trod at h
  rw [hu] at h
  dsimp only at h
  split at h
  · rename_i hl
    refine ⟨hl, fun i f hi => ?_⟩
    cases hm : (fs.toList.mapM fun f => DataW.trod enc P w base spare held fuel f.type ((cs.drop f.offset).take (P.cellsOf f.type))) with
    | none => rw [hm] at h; cases h
    | some r =>
      obtain ⟨y, hy⟩ := mapM_all hm f (by simpa using Array.mem_of_getElem? hi)
      exact ⟨y, hy⟩
  · cases h
theorem fld1F {fs : Array Field} (hf : ∀ (i : Nat) (f : Field), fs[i]? = some f → ReadsF enc P w base spare held fuel f.type ((cs.drop f.offset).take (P.cellsOf f.type))) (i : Nat) {f : Field} (hi : fs[i]? = some f)
    (hC : P.cellsOf f.type = 1) (hc : cs[f.offset]? = some c) : ReadsF enc P w base spare held fuel f.type [c] := by
  have := hf i f hi
  rw [hC] at this
  have e : (cs.drop f.offset).take 1 = [c] := by
    rw [List.take_one, List.head?_drop, hc]
    rfl
  rwa [e] at this
theorem inv_sliceF {e : TypeId} (hu : P.underlying t = some (.slice e)) (h : ReadsF enc P w base spare held (fuel + 1) t [c]) :
    c = .slice none 0 0 ∨ ∃ a len cap, c = .slice (some a) len cap ∧ len ≤ cap ∧ cap ≤ maxLen ∧ ∀ i, i < len → ∃ xs, w.cells? base (a.add (i * P.cellsOf e)) (P.cellsOf e) = some xs ∧ ReadsF enc P w base spare held fuel e xs := by
  obtain ⟨y, h⟩ := h
  unfold DataW.trod at h
  rw [hu] at h
  split at h
  all_goals (first | (rename_i h1 h2; cases h1; done) | (rename_i h1; cases h1; done) | (cases h; done) | skip)
  · rename_i h1 h2
    simp only [List.cons.injEq, and_true] at h2
    exact .inl h2
  · rename_i e' a len cap h1 h2
    simp only [Option.some.injEq, TypeDesc.slice.injEq] at h1
    subst h1
    simp only [List.cons.injEq, and_true] at h2
    subst h2
    refine .inr ⟨a, len, cap, rfl, ?_⟩
    dsimp only at h
    split at h
    · rename_i hb
      refine ⟨hb.2.1, hb.2.2, fun i hi => ?_⟩
      rw [Option.bind_eq_some_iff] at h
      obtain ⟨elems, he, _⟩ := h
      obtain ⟨z, hz⟩ := mapM_all he i (List.mem_range.2 hi)
      rw [Option.bind_eq_some_iff] at hz
      obtain ⟨xs, h3, h4⟩ := hz
      exact ⟨xs, h3, z, h4⟩
    · cases h
theorem mapM_idx {α : Type} {f : Nat → Option α} : ∀ {n : Nat} {r : List α}, (List.range n).mapM f = some r → ∀ (i : Nat) (u : α), r[i]? = some u → f i = some u := by
  have gen : ∀ (l : List Nat) (r : List α), l.mapM f = some r → ∀ (i : Nat) (u : α), r[i]? = some u → ∃ j, l[i]? = some j ∧ f j = some u := by
    intro l
    induction l with
    | nil =>
      intro r h i u hi
      rw [List.mapM_nil] at h
      cases h
      simp at hi
    | cons a l ih =>
      intro r h i u hi
      rw [List.mapM_cons] at h
      cases ha : f a with
      | none => rw [ha] at h; cases h
      | some b =>
        rw [ha] at h
        cases hl : l.mapM f with
        | none => rw [hl] at h; cases h
        | some bs =>
          rw [hl] at h
          cases h
          cases i with
          | zero => exact ⟨a, rfl, by simpa using ha.trans (by simpa using hi)⟩
          | succ i =>
            obtain ⟨j, h1, h2⟩ := ih bs hl i u (by simpa using hi)
            exact ⟨j, by simpa using h1, h2⟩
  intro n r h i u hi
  obtain ⟨j, h1, h2⟩ := gen _ _ h i u hi
  have hj := List.getElem?_eq_some_iff.1 h1
  obtain ⟨hl, he⟩ := hj
  simp at he
  subst he
  exact h2
theorem cell_block {a : Addr} {m : Nat} {u : Value} (h : w.cell? (a.add m) = some u) : ∃ cs T fr, hp w a.block = some (.cells cs T fr) ∧ cs[a.off + m]? = some u ∧ (m = 0 → a.spot = none) := by
  unfold World.cell? at h
  have hb : (a.add m).block = a.block := by unfold Addr.add; split <;> rfl
  have ho : (a.add m).off = a.off + m := by
    unfold Addr.add
    split
    · rename_i h0; subst h0; rfl
    · rfl
  rw [hb, ho] at h
  split at h
  · rename_i cs T fr he
    split at h
    · cases h
    · rename_i hs
      refine ⟨cs, T, fr, he, h, fun h0 => ?_⟩
      subst h0
      simp [Addr.add] at hs
      exact hs
  · cases h
/-- The cells of a slice's elements, as records. -/
theorem open_list {α : Type} (F : α → List Value) (PP : α → Prop) {e : TypeId} (hn : P.cellsOf e = n) (hpos : 0 < n) (hF : ∀ x, (F x).length = n) (hu : P.underlying t = some (.slice e))
    (hel : ∀ xs, ReadsF enc P w base spare held fuel e xs → ∃ x, xs = F x ∧ PP x) (h : ReadsF enc P w base spare held (fuel + 1) t [c]) :
    ∃ (a : Option Addr) (len cap : Nat) (l : List α), c = .slice a len cap ∧ RS (hp w) n c l.length (l.flatMap F) ∧ (∀ x ∈ l, PP x) ∧ l.length ≤ maxLen := by
  rcases inv_sliceF hu h with rfl | ⟨a, len, cap, rfl, h1, h2, h3⟩
  · exact ⟨none, 0, 0, [], rfl, RS.nil _ _, fun x hx => (by cases hx), Nat.zero_le _⟩
  · subst hn
    have hx : ∀ i : Fin len, ∃ x, w.cells? base (a.add (i * P.cellsOf e)) (P.cellsOf e) = some (F x) ∧ PP x := fun i => by
      obtain ⟨xs, e1, e2⟩ := h3 i i.2
      obtain ⟨x, rfl, hp⟩ := hel xs e2
      exact ⟨x, e1, hp⟩
    have hl : ∃ l : List α, l.length = len ∧ ∀ i x, l[i]? = some x → w.cells? base (a.add (i * P.cellsOf e)) (P.cellsOf e) = some (F x) ∧ PP x := by
      refine ⟨List.ofFn fun i : Fin len => Classical.choose (hx i), List.length_ofFn, fun i x hi => ?_⟩
      rw [List.getElem?_ofFn] at hi
      split at hi
      · rename_i hlt
        cases hi
        exact Classical.choose_spec (hx ⟨i, hlt⟩)
      · cases hi
    obtain ⟨l, rfl, hl⟩ := hl
    refine ⟨some a, l.length, cap, l, rfl, ⟨fm_len hF l, some a, cap, rfl, h1, fun hm => ?_⟩, fun x hx => ?_, Nat.le_trans h1 h2⟩
    · have key : ∀ k x, l[k]? = some x → ∀ i u, (F x)[i]? = some u → ∃ cs T fr, hp w a.block = some (.cells cs T fr) ∧ cs[a.off + (k * P.cellsOf e + i)]? = some u ∧ (k * P.cellsOf e + i = 0 → a.spot = none) := by
        intro k x hk i u hi
        have hc := (hl k x hk).1
        unfold World.cells? at hc
        split at hc
        · have hc := mapM_idx hc i u hi
          by_cases hi0 : i = 0
          · subst hi0
            have : (a.add (k * P.cellsOf e)).add 0 = a.add (k * P.cellsOf e + 0) := by simp [Addr.add]
            rw [this] at hc
            exact cell_block hc
          · have : (a.add (k * P.cellsOf e)).add i = a.add (k * P.cellsOf e + i) := by
              by_cases hk0 : k * P.cellsOf e = 0
              · rw [hk0]; simp [Addr.add]
              · simp [Addr.add, hi0, hk0, Nat.add_assoc]
            rw [this] at hc
            exact cell_block hc
        · cases hc
      obtain ⟨b, off, spot⟩ := a
      have h0 : spot = none := by
        obtain ⟨x, hx0, _⟩ := elem_at l 0 hm
        have hlen := hF x
        obtain ⟨cs, T, fr, _, _, e3⟩ := key 0 x hx0 0 _ (List.getElem?_eq_getElem (by omega))
        exact e3 (by simp)
      subst h0
      refine ⟨b, off, rfl, fun j u hj => ?_⟩
      have hjl : j < (l.flatMap F).length := (List.getElem?_eq_some_iff.1 hj).1
      rw [fm_len hF] at hjl
      have hk : j / P.cellsOf e < l.length := Nat.div_lt_of_lt_mul (by rwa [Nat.mul_comm] at hjl)
      obtain ⟨x, hkx, _⟩ := elem_at l _ hk
      have hi : j % P.cellsOf e < (F x).length := by rw [hF]; exact Nat.mod_lt _ hpos
      have hdm : j / P.cellsOf e * P.cellsOf e + j % P.cellsOf e = j := by rw [Nat.mul_comm]; exact Nat.div_add_mod _ _
      have e1 := fm_cell hF hkx (List.getElem?_eq_getElem hi)
      rw [hdm, hj] at e1
      obtain ⟨cs, T, fr, e2, e3, _⟩ := key _ x hkx _ _ (List.getElem?_eq_getElem hi)
      rw [hdm] at e3
      exact ⟨cs, T, fr, e2, by rw [e3, ← e1]⟩
    · obtain ⟨i, hi, rfl⟩ := List.getElem_of_mem hx
      exact (hl i _ (List.getElem?_eq_getElem hi)).2
end
end Go.Proofs.Ytiblemgccgbhoaa.Gw
set_option linter.unusedVariables false
set_option linter.unusedSimpArgs false
namespace Go.Proofs.Ytiblemgccgbhoaa.Gw
open Go Go.RowKit
section
variable {P : Program} {n : Nat} {e : Env} {w : World} {K : Value → World → Prop} {Q : Exit → Act → World → Prop} {ops : Array Oper} {rest : List Oper} {ds : List Deferred}
  {d : Option Nat} {ty : TypeId} {pos : String} {af : Array Edge} {g : Option (Nat × Bool)} {l : List SP}
/-- A piece of a slice. -/
def slc : Value → Nat → Nat → Nat → Value
  | .slice a _ c, l, h, sz => .slice (if c = l then a else a.map (·.add (l * sz))) (h - l) (c - l)
  | v, _, _, _ => v
theorem RS.slc {R : HP} {sz m l h : Nat} {v : Value} {xs : List Value} (hr : RS R sz v m xs) (h1 : l ≤ h) (h2 : h ≤ m) : RS R sz (Gw.slc v l h sz) (h - l) ((xs.drop (l * sz)).take ((h - l) * sz)) := by
  obtain ⟨e1, a, cap, rfl, e2, e3⟩ := hr
  have hm : h * sz ≤ m * sz := Nat.mul_le_mul_right _ h2
  have hs : (h - l) * sz = h * sz - l * sz := Nat.sub_mul ..
  refine ⟨by rw [List.length_take, List.length_drop, e1]; omega, _, _, rfl, by omega, fun hp => ?_⟩
  obtain ⟨b, off, rfl, rc⟩ := e3 (by omega)
  refine ⟨b, off + l * sz, ?_, (rc.drop _).take _⟩
  rw [if_neg (by omega)]
  simp [add_mk]
theorem x_sliceRS {R : HP} {t el : TypeId} {x : Operand} {lo hi : Option Operand} {v : Value} {sz sz' m bb l h : Nat} {xs : List Value} {z : Option Value} (hx : ev n e x = v) (hr : RS R sz' v m xs) (hu : P.underlying t = some (.slice el))
    (hz : tin P el = some (sz, bb, z)) (hm : h ≤ m) (hh : (match hi.map (ev n e) with | none => h = m | some v => ∃ k i, v = .int k i ∧ 0 ≤ i ∧ i ≤ m ∧ i.toNat = h))
    (hl : (match lo.map (ev n e) with | none => l = 0 | some v => ∃ k i, v = .int k i ∧ 0 ≤ i ∧ i ≤ h ∧ i.toNat = l)) :
    (execOp (ev n e) ⟨d, .slice t x lo hi none, ty, pos, af, g⟩).run P w = .ok (.value (Gw.slc v l h sz)) w := by
  obtain ⟨a, cap, rfl, hc⟩ := hr.len
  refine x_slice hx hu hz ?_ hl rfl
  cases hi with
  | none => exact hh
  | some o =>
    obtain ⟨k, i, e1, e2, e3, e4⟩ := hh
    exact ⟨k, i, e1, e2, by omega, e4⟩
end
end Go.Proofs.Ytiblemgccgbhoaa.Gw
set_option linter.unusedVariables false
set_option linter.unusedSimpArgs false
set_option linter.unusedSectionVars false
namespace Go.Proofs.Ytiblemgccgbhoaa.Gw
open Go Go.RowKit
theorem lcons {α : Type} {a b : α} {l m : List α} (h : a = b) (k : l = m) : a :: l = b :: m := by subst h; subst k; rfl
theorem map_at {α β : Type} {f : α → β} {l : List α} {k : Nat} {x : α} (h : l[k]? = some x) : (l.map f)[k]? = some (f x) := by simp [h]
theorem cl_RSn {b T k sz cap : Nat} {xs : List Value} {h R : HP} (a : cl b T xs h) (hs : Sub h R) (hl : xs.length = k * sz) (hc : k ≤ cap) : RS R sz (.slice (some ⟨b, 0, none⟩) k cap) k xs :=
  ⟨hl, _, _, rfl, hc, fun _ => ⟨b, 0, rfl, cl_RC a hs⟩⟩
/-! ### Pieces made of pieces -/
/-! ### A map of one's own: its keys are 'K a', for things a that can be told apart -/
section
variable {α : Type} [DecidableEq α]
def Born (es : List MapEntry) (clock : Nat) : Prop := (∀ e ∈ es, e.born < clock) ∧ es.Pairwise fun a b => a.born ≠ b.born
def mp (K : α → Value) (b : Nat) (m : List (α × Value)) : SP := fun h => ∃ es clock, h b = some (.map es clock) ∧ es.toList.map (fun e => (e.key, e.val)) = m.map (fun p => (K p.1, p.2)) ∧ Born es.toList clock
def mset (m : List (α × Value)) (a : α) (v : Value) : List (α × Value) := if m.any (fun p => p.1 = a) then m.map (fun p => if p.1 = a then (p.1, v) else p) else m ++ [(a, v)]
def mdel (m : List (α × Value)) (a : α) : List (α × Value) := m.eraseP fun p => p.1 = a
/-- What makes K a kind of keys. -/
structure KeyKind (P : Program) (k : TypeId) (K : α → Value) : Prop where
  inj : ∀ a b, K a = K b → a = b
  check : ∀ (w : World) (em : Bool) a, (Instr.checkKey em 10000 k (K a)).run P w = .ok () w
  find : ∀ (w : World) a (es : List MapEntry) (m : List α), es.map (·.key) = m.map K →
    (Instr.findKey k (K a) es).run P w = .ok ((m.findIdx? (· = a)).bind fun i => (es[i]?).map fun e => (i, e.val)) w
  stays : ∀ (w : World) a, (Instr.keyThatStays (K a) (K a)).run P w = .ok (K a) w
variable {P : Program} {w : World} {l : List SP} {n : Nat} {e : Env} {K' : Value → World → Prop} {d : Option Nat} {ty : TypeId} {pos : String} {af : Array Edge} {g : Option (Nat × Bool)}
theorem findNow_kind {D : TypeDesc} {K : α → Value} (hs : ∀ a b, Instr.sameNow D (K a) (K b) = some (decide (a = b))) (a : α) : ∀ (es : List MapEntry) (m : List α) (i : Nat), es.map (·.key) = m.map K →
    Instr.findNow D (K a) es i = some ((m.findIdx? (· = a)).bind fun j => (es[j]?).map fun e => (i + j, e.val))
  | [], [], i, _ => by simp [Instr.findNow]
  | [], _ :: _, i, h => by simp at h
  | _ :: _, [], i, h => by simp at h
  | e :: es, x :: m, i, h => by
    simp only [List.map_cons, List.cons.injEq] at h
    have ih := findNow_kind hs a es m (i + 1) h.2
    unfold Instr.findNow
    rw [h.1, hs]
    by_cases hx : x = a
    · subst hx
      simp [List.findIdx?_cons]
    · have hx' : ¬ a = x := fun e => hx e.symm
      simp only [hx', decide_false, List.findIdx?_cons, hx]
      rw [ih]
      cases hm : List.findIdx? (fun x => decide (x = a)) m with
      | none => simp
      | some j => simp [Nat.add_assoc, Nat.add_comm 1 j]
theorem sameBits_int (q : IntKind) (a : Int) (n : Nat) : Instr.sameBits n (.int q a) (.int q a) = true := by cases n <;> simp [Instr.sameBits]
theorem sameBits_string (a : ByteArray) (n : Nat) : Instr.sameBits n (.string a) (.string a) = true := by cases n <;> simp [Instr.sameBits, Go.MapKept.bytes_beq]
theorem checkKey_int {k : TypeId} {q : IntKind} (hk : P.underlying k = some (.int q)) (em : Bool) (v : Value) (n : Nat) : (Instr.checkKey em (n + 1) k v).run P w = .ok () w := by simp [Instr.checkKey, run_underlying hk]
theorem checkKey_string {k : TypeId} (hk : P.underlying k = some .string) (em : Bool) (v : Value) (n : Nat) : (Instr.checkKey em (n + 1) k v).run P w = .ok () w := by simp [Instr.checkKey, run_underlying hk]
theorem ba_beq (a b : ByteArray) : (a == b) = decide (a = b) := by
  rw [Bool.eq_iff_iff, Go.MapKept.bytes_beq]; simp
theorem KeyKind.int {k : TypeId} {q : IntKind} (hk : P.underlying k = some (.int q)) : KeyKind P k (Value.int q) where
  inj := fun a b h => by injection h
  check := fun w em a => checkKey_int hk em _ 9999
  find := fun w a es m h => by
    have := findNow_kind (D := .int q) (K := Value.int q) (fun a b => by simp only [Instr.sameNow, if_true]; rw [Bool.beq_eq_decide_eq]) a es m 0 h
    simp only [Instr.findKey, Sem.run_bind, run_underlying hk, Result.andThen_ok, this]
    simp
  stays := fun w a => by
    simp only [Instr.keyThatStays, sameBits_int, if_true]; rfl
theorem KeyKind.string {k : TypeId} (hk : P.underlying k = some .string) : KeyKind P k Value.string where
  inj := fun a b h => by injection h
  check := fun w em a => checkKey_string hk em _ 9999
  find := fun w a es m h => by
    have := findNow_kind (D := .string) (K := Value.string) (fun a b => by simp only [Instr.sameNow]; rw [ba_beq]) a es m 0 h
    simp only [Instr.findKey, Sem.run_bind, run_underlying hk, Result.andThen_ok, this]
    simp
  stays := fun w a => by
    simp only [Instr.keyThatStays, sameBits_string, if_true]; rfl
theorem Holds.mp_block {K : α → Value} (h : Holds w l) (i : Nat) {b : Nat} {m : List (α × Value)} (hi : l[i]? = some (mp K b m)) :
    ∃ es clock, w.heap[b]? = some (.map es clock) ∧ es.toList.map (fun e => (e.key, e.val)) = m.map (fun p => (K p.1, p.2)) ∧ Born es.toList clock := by
  obtain ⟨h', s, es, clock, a, b, c⟩ := Sat.at i hi h
  exact ⟨es, clock, s _ _ a, b, c⟩
def MpRd (K : α → Value) (b : Nat) (m : List (α × Value)) (w : World) : Prop := ∃ es clock, w.heap[b]? = some (.map es clock) ∧ es.toList.map (fun e => (e.key, e.val)) = m.map (fun p => (K p.1, p.2)) ∧ Born es.toList clock
theorem Holds.mprd {K : α → Value} (h : Holds w l) (i : Nat) {b : Nat} {m : List (α × Value)} (hi : l[i]? = some (mp K b m)) : MpRd K b m w := h.mp_block i hi
theorem run_getObj {r : Nat} {es : Array MapEntry} {clock : Nat} (h : w.heap[r]? = some (.map es clock)) : (getObj r).run P w = .ok (.map es clock) w := by simp [getObj, Sem.run, h]
theorem mp_find {K : α → Value} {es : List MapEntry} {m : List (α × Value)} (h : es.map (fun e => (e.key, e.val)) = m.map (fun p => (K p.1, p.2))) (a : α) :
    (((m.map (·.1)).findIdx? (· = a)).bind fun i => (es[i]?).map fun e => (i, e.val)) = ((m.findIdx? fun p => p.1 = a).bind fun i => (m[i]?).map fun p => (i, p.2)) := by
  have h1 : (m.map (·.1)).findIdx? (fun x => decide (x = a)) = m.findIdx? (fun p => decide (p.1 = a)) := by rw [List.findIdx?_map]; rfl
  rw [h1]
  cases m.findIdx? (fun p => decide (p.1 = a)) with
  | none => rfl
  | some i =>
    have : (es.map fun e => (e.key, e.val))[i]? = (m.map fun p => (K p.1, p.2))[i]? := by rw [h]
    simp only [List.getElem?_map] at this
    cases h2 : es[i]? <;> cases h3 : m[i]? <;> simp_all
/-- The block of a map, written anew. -/
theorem Holds.mp_set {K : α → Value} (h : Holds w l) (i : Nat) {b : Nat} {m m' : List (α × Value)} (hi : l[i]? = some (mp K b m)) {w' : World} {o' : Obj} (hw : w'.heap = w.heap.setIfInBounds b o')
    (ho : ∃ es clock, o' = .map es clock ∧ es.toList.map (fun e => (e.key, e.val)) = m'.map (fun p => (K p.1, p.2)) ∧ Born es.toList clock) : Holds w' (l.set i (mp K b m')) := by
  obtain ⟨es0, clock0, e, _, _⟩ := h.mp_block i hi
  have hb : b < w.heap.size := by
    rcases Nat.lt_or_ge b w.heap.size with x | x
    · exact x
    · rw [Array.getElem?_eq_none x] at e; cases e
  have hw : hp w' = upb (hp w) b o' := by
    refine hp_setBlock _ _ _ _ (by rw [hw]; simp [hb]) (fun c hc => by rw [hw]; simp [Ne.symm hc])
  unfold Holds
  rw [hw]
  refine Sat.upb_at i hi h (fun h ⟨_, _, e', _⟩ => ⟨_, e'⟩) fun h _ => ?_
  obtain ⟨es, clock, rfl, h1, h2⟩ := ho
  exact ⟨es, clock, by simp [upb], h1, h2⟩
theorem mset_none {m : List (α × Value)} {a : α} (h : m.findIdx? (fun p => p.1 = a) = none) (v : Value) : mset m a v = m ++ [(a, v)] := by
  unfold mset
  rw [if_neg]
  rw [List.findIdx?_eq_none_iff] at h
  simp only [List.any_eq_true, not_exists, not_and, decide_eq_true_eq]
  intro p hp hpa
  have := h p hp
  simp [hpa] at this
theorem mset_some {m : List (α × Value)} {a : α} {i : Nat} (h : m.findIdx? (fun p => p.1 = a) = some i) (nd : (m.map (·.1)).Nodup) (v : Value) : ∀ K : α → Value, (mset m a v).map (fun p => (K p.1, p.2)) = (m.map fun p => (K p.1, p.2)).modify i fun p => (K a, v) := by
  intro K
  have hany : m.any (fun p => p.1 = a) = true := by
    rw [List.findIdx?_eq_some_iff_getElem] at h
    obtain ⟨hi, h1, _⟩ := h
    exact List.any_eq_true.2 ⟨m[i], List.getElem_mem hi, h1⟩
  unfold mset
  rw [if_pos hany]
  clear hany
  induction m generalizing i with
  | nil => simp at h
  | cons p m ih =>
    simp only [List.map_cons, List.nodup_cons] at nd
    by_cases hp : p.1 = a
    · simp only [List.findIdx?_cons, hp, decide_true, if_true, Option.some.injEq] at h
      subst h
      simp only [List.map_cons, hp, if_true, List.modify_zero_cons, List.cons.injEq, true_and, List.map_map]
      refine List.map_congr_left fun q hq => ?_
      have : q.1 ≠ a := fun e => nd.1 (hp ▸ e ▸ List.mem_map_of_mem hq)
      simp [this]
    · simp only [List.findIdx?_cons, hp, decide_false] at h
      cases hm : List.findIdx? (fun p => decide (p.1 = a)) m with
      | none => rw [hm] at h; simp at h
      | some j =>
        rw [hm] at h
        simp only [Bool.false_eq_true, if_false, Option.map_some, Option.some.injEq] at h
        subst h
        simp only [List.map_cons, hp, if_false, List.modify_succ_cons]
        rw [ih hm nd.2]
theorem Born.push {es : List MapEntry} {clock : Nat} (h : Born es clock) (k v : Value) : Born (es ++ [⟨k, v, clock⟩]) (clock + 1) := by
  refine ⟨fun x hx => ?_, ?_⟩
  · rcases List.mem_append.1 hx with hx | hx
    · have := h.1 x hx; omega
    · simp only [List.mem_singleton] at hx; subst hx; show clock < clock + 1; omega
  · rw [List.pairwise_append]
    exact ⟨h.2, List.pairwise_singleton _ _, fun a ha b hb => by
      simp only [List.mem_singleton] at hb; subst hb
      have := h.1 a ha
      show a.born ≠ clock
      omega⟩
theorem Born.same {es es' : List MapEntry} {clock : Nat} (h : Born es clock) (e : es'.map (·.born) = es.map (·.born)) : Born es' clock := by
  refine ⟨fun x hx => ?_, ?_⟩
  · have : x.born ∈ es.map (·.born) := e ▸ List.mem_map_of_mem hx
    obtain ⟨y, hy, e2⟩ := List.mem_map.1 this
    rw [← e2]; exact h.1 y hy
  · have h2 : (es.map (·.born)).Pairwise (· ≠ ·) := List.pairwise_map.2 h.2
    rw [← e] at h2
    exact List.pairwise_map.1 h2
theorem Born.erase {es : List MapEntry} {clock : Nat} (h : Born es clock) (i : Nat) : Born (es.eraseIdx i) clock :=
  ⟨fun x hx => h.1 x (List.mem_of_mem_eraseIdx hx), h.2.sublist (List.eraseIdx_sublist es i)⟩
theorem run_mapUpdate {K : α → Value} {t k el : TypeId} (kk : KeyKind P k K) (ht : P.underlying t = some (.map k el)) (h : Holds w l) (i : Nat) {b : Nat} {m : List (α × Value)} (hi : l[i]? = some (mp K b m)) (nd : (m.map (·.1)).Nodup) (a : α) (v : Value) :
    ∃ w', (Instr.mapUpdate t (.map (some b)) (K a) v).run P w = .ok () w' ∧ Same w w' ∧ Holds w' (l.set i (mp K b (mset m a v))) := by
  obtain ⟨es, clock, hb, he, hbo⟩ := h.mp_block i hi
  have hkeys : es.toList.map (·.key) = (m.map (·.1)).map K := by
    have := congrArg (List.map (·.1)) he
    simpa [List.map_map, Function.comp_def] using this
  have hf := kk.find w a es.toList (m.map (·.1)) hkeys
  rw [mp_find he a] at hf
  simp only [Instr.mapUpdate, Sem.run_bind, run_underlying ht, Result.andThen_ok, run_getObj hb, kk.check, hf]
  have hlen : es.toList.length = m.length := by simpa using congrArg List.length he
  cases hm : m.findIdx? (fun p => decide (p.1 = a)) with
  | none =>
    simp only [Option.bind_none, Go.MapKept.run_setObj_map _ hb]
    refine ⟨_, rfl, ⟨rfl, rfl, rfl⟩, h.mp_set i hi (o' := .map (es.push ⟨K a, v, clock⟩) (clock + 1)) rfl ⟨_, _, rfl, ?_, ?_⟩⟩
    · rw [mset_none hm]; simp [he]
    · simpa using hbo.push (K a) v
  | some j =>
    have hj : j < m.length := by
      rw [List.findIdx?_eq_some_iff_getElem] at hm
      exact hm.1
    have hj' : j < es.toList.length := by omega
    have hjs : j < es.size := by simpa using hj'
    have hk : (es[j]?).map (·.key) = some (K a) := by
      have h1 := congrArg (fun l : List (Value × Value) => l[j]?) he
      simp only [List.getElem?_map] at h1
      rw [List.findIdx?_eq_some_iff_getElem] at hm
      obtain ⟨_, hp, _⟩ := hm
      have hp' : m[j].1 = a := by simpa using hp
      rw [List.getElem?_eq_getElem hj, List.getElem?_eq_getElem hj'] at h1
      simp only [Option.map_some, Option.some.injEq, Prod.mk.injEq, hp'] at h1
      simp [hjs, ← h1.1]
    simp only [Option.bind_some, List.getElem?_eq_getElem hj, Option.map_some, hk, Option.getD_some, kk.stays, Sem.run_bind, Result.andThen_ok, Go.MapKept.run_setObj_map _ hb]
    refine ⟨_, rfl, ⟨rfl, rfl, rfl⟩, h.mp_set i hi (o' := .map (es.modify j fun e => { e with key := K a, val := v }) clock) rfl ⟨_, _, rfl, ?_, ?_⟩⟩
    · rw [mset_some hm nd v K, ← he, Array.toList_modify]
      apply List.ext_getElem? ; intro q
      simp only [List.getElem?_map, List.getElem?_modify]
      cases es.toList[q]? <;> simp <;> split <;> simp_all
    · refine hbo.same ?_
      rw [Array.toList_modify]
      apply List.ext_getElem? ; intro q
      simp only [List.getElem?_map, List.getElem?_modify]
      cases es.toList[q]? <;> simp <;> split <;> simp_all
theorem T_mapUpdate {K : α → Value} {t k el : TypeId} {x y z : Operand} {b : Nat} {m : List (α × Value)} {a : α} {v : Value} (hx : ev n e x = .map (some b)) (hy : ev n e y = K a) (hz : ev n e z = v) (kk : KeyKind P k K) (ht : P.underlying t = some (.map k el))
    (h : Holds w l) (i : Nat) (hi : l[i]? = some (mp K b m)) (nd : (m.map (·.1)).Nodup) (c : ∀ w', Same w w' → Holds w' (l.set i (mp K b (mset m a v))) → K' undef w') : Stp P n e ⟨d, .mapUpdate t x y z, ty, pos, af, g⟩ w K' := by
  obtain ⟨w', hr, hs, hh⟩ := run_mapUpdate kk ht h i hi nd a v
  refine .inr (.inl ⟨w', ?_, c w' hs hh⟩)
  simp only [execOp, hx, hy, hz]
  simp [hr]
theorem mdel_none {m : List (α × Value)} {a : α} (h : m.findIdx? (fun p => p.1 = a) = none) : mdel m a = m := by
  rw [List.findIdx?_eq_none_iff] at h
  refine List.eraseP_of_forall_not fun p hp => ?_
  have := h p hp
  simp [this]
theorem mdel_some {m : List (α × Value)} {a : α} {i : Nat} (h : m.findIdx? (fun p => p.1 = a) = some i) : mdel m a = m.eraseIdx i := by
  unfold mdel
  induction m generalizing i with
  | nil => simp at h
  | cons p m ih =>
    by_cases hp : p.1 = a
    · simp only [List.findIdx?_cons, hp, decide_true, if_true, Option.some.injEq] at h
      subst h; simp [hp]
    · simp only [List.findIdx?_cons, hp, decide_false] at h
      cases hm : List.findIdx? (fun p => decide (p.1 = a)) m with
      | none => rw [hm] at h; simp at h
      | some j =>
        rw [hm] at h
        simp only [Bool.false_eq_true, if_false, Option.map_some, Option.some.injEq] at h
        subst h
        simp [hp, ih hm]
theorem run_delete {K : α → Value} {t k el u : TypeId} {tu : TypeId} (kk : KeyKind P k K) (ht : P.underlying t = some (.map k el)) (h : Holds w l) (i : Nat) {b : Nat} {m : List (α × Value)} (hi : l[i]? = some (mp K b m)) (a : α) :
    ∃ w', (Builtin.delete_ #[t, u] tu #[.map (some b), K a]).run P w = .ok (.tuple #[]) w' ∧ Same w w' ∧ Holds w' (l.set i (mp K b (mdel m a))) := by
  obtain ⟨es, clock, hb, he, hbo⟩ := h.mp_block i hi
  have hkeys : es.toList.map (·.key) = (m.map (·.1)).map K := by
    have := congrArg (List.map (·.1)) he
    simpa [List.map_map, Function.comp_def] using this
  have hf := kk.find w a es.toList (m.map (·.1)) hkeys
  rw [mp_find he a] at hf
  simp only [Builtin.delete_, List.getElem?_toArray, List.getElem?_cons_zero, List.getElem?_cons_succ, Sem.run_bind, run_underlying ht, Result.andThen_ok, run_getObj hb, kk.check, hf]
  have hlen : es.toList.length = m.length := by simpa using congrArg List.length he
  cases hm : m.findIdx? (fun p => decide (p.1 = a)) with
  | none =>
    simp only [Option.bind_none, Sem.run_bind, Sem.run_pure, Go.MapKept.run_setObj_map _ hb, Result.andThen_ok]
    refine ⟨_, rfl, ⟨rfl, rfl, rfl⟩, h.mp_set i hi (o' := .map es clock) rfl ⟨_, _, rfl, ?_, hbo⟩⟩
    rw [mdel_none hm, he]
  | some j =>
    have hj : j < m.length := by
      rw [List.findIdx?_eq_some_iff_getElem] at hm
      exact hm.1
    simp only [Option.bind_some, List.getElem?_eq_getElem hj, Option.map_some, Sem.run_bind, Sem.run_pure, Go.MapKept.run_setObj_map _ hb, Result.andThen_ok]
    refine ⟨_, rfl, ⟨rfl, rfl, rfl⟩, h.mp_set i hi (o' := .map (es.eraseIdxIfInBounds j) clock) rfl ⟨_, _, rfl, ?_, ?_⟩⟩
    · rw [mdel_some hm, Array.toList_eraseIdxIfInBounds]
      apply List.ext_getElem? ; intro q
      have := fun q : Nat => congrArg (fun l : List (Value × Value) => l[q]?) he
      simp only [List.getElem?_map] at this
      simp only [List.getElem?_map, List.getElem?_eraseIdx]
      split <;> rw [this]
    · rw [Array.toList_eraseIdxIfInBounds]; exact hbo.erase j
theorem T_delete {K : α → Value} {t k el u : TypeId} {x y : Operand} {b : Nat} {m : List (α × Value)} {a : α} (hx : ev n e x = .map (some b)) (hy : ev n e y = K a) (kk : KeyKind P k K) (ht : P.underlying t = some (.map k el))
    (h : Holds w l) (i : Nat) (hi : l[i]? = some (mp K b m)) (c : ∀ w', Same w w' → Holds w' (l.set i (mp K b (mdel m a))) → K' (.tuple #[]) w') : Stp P n e ⟨d, .call { callee := .builtin .delete, args := #[x, y], argTypes := #[t, u] }, ty, pos, af, g⟩ w K' := by
  obtain ⟨w', hr, hs, hh⟩ := run_delete (u := u) (tu := ty) kk ht h i hi a
  refine .inl ⟨.tuple #[], w', ?_, c w' hs hh⟩
  simp only [execOp, resolve, Sem.run_bind, Sem.run_pure, Result.andThen_ok, invoke, builtin]
  simp [hx, hy, hr]
theorem T_makeMap {t : TypeId} (K : α → Value) (h : Holds w l) (c : ∀ b w', Same w w' → Holds w' (mp K b [] :: l) → K' (.map (some b)) w') : Stp P n e ⟨d, .makeMap t none, ty, pos, af, g⟩ w K' := by
  refine T_new (obj := .map #[] 0) (f := fun b => .map (some b)) (A := fun b => mp K b []) ?_ (fun l h => ?_) h c
  · simp only [execOp]; rfl
  · refine Sat.head_map (A := ob w.heap.size (.map #[] 0)) ?_ (h.allocOb (.map #[] 0))
    intro h' a
    exact ⟨#[], 0, a, rfl, (fun x hx => by simp at hx), List.Pairwise.nil⟩
end
end Go.Proofs.Ytiblemgccgbhoaa.Gw
set_option linter.unusedVariables false
set_option linter.unusedSimpArgs false
set_option linter.unusedSectionVars false
namespace Go.Proofs.Ytiblemgccgbhoaa.Gw
open Go Go.RowKit
section
variable {P : Program} {n : Nat} {e : Env} {w : World} {K : Value → World → Prop} {d : Option Nat} {ty : TypeId} {pos : String} {af : Array Edge} {g : Option (Nat × Bool)} {l : List SP}
/-! ### Elements of a slice of one's own -/
theorem sl_cell {T sz m : Nat} {v : Value} {xs : List Value} (h : Holds w l) (j : Nat) (hj : l[j]? = some (sl T sz v m xs)) {k : Nat} {u : Value} (hk : xs[k]? = some u) : w.cell? ⟨sb v, so v + k, none⟩ = some u := by
  have hr := h.sl_RSw j hj
  have hlen := hr.1
  have hk' := (List.getElem?_eq_some_iff.1 hk).1
  have hm : 0 < m := by
    rcases Nat.eq_zero_or_pos m with h0 | h0
    · rw [h0, Nat.zero_mul] at hlen; omega
    · exact h0
  obtain ⟨b, off, cap, rfl, _, hc⟩ := hr.at_ hm
  exact hc.cell (Sub.rfl' _) hk
theorem T_storeSl {t T bb sz m k : Nat} {z : Option Value} {x y : Operand} {off : Nat} {b : Nat} {v u : Value} {xs : List Value} (hx : ev n e x = .pointer (some ⟨b, off, none⟩)) (hy : ev n e y = u) (hz : tin P t = some (1, bb, z))
    (hv : u.oneCell' = true) (h : Holds w l) (i : Nat) (hi : l[i]? = some (sl T sz v m xs)) (hk : k < xs.length) (hb : b = sb v) (ho : off = so v + k) (c : ∀ w', Same w w' → Holds w' (l.set i (sl T sz v m (xs.set k u))) → K undef w') :
    Stp P n e ⟨d, .store t x y, ty, pos, af, g⟩ w K := by
  subst hb; subst ho
  have hlen : xs.length = m * sz := (h.sl_RSw i hi).1
  have hm : 0 < m := by
    rcases Nat.eq_zero_or_pos m with h0 | h0
    · rw [h0, Nat.zero_mul] at hlen; omega
    · exact h0
  obtain ⟨b', pr, sp, cap, hve, e2, e3, e4, hh⟩ := h.sl_open i hi hm
  have es : sb v = b' := by rw [hve]; rfl
  have eo : so v = pr.length := by rw [hve]; rfl
  have hil : i < l.length := (List.getElem?_eq_some_iff.1 hi).1
  rw [es, eo] at hx
  refine T_store1 hx hy hz hv hh i (T := T) (cs := pr ++ xs ++ sp) (by simp [hil]) (by simp; omega) fun w' s h' => c w' s ?_
  have hset : (pr ++ xs ++ sp).set (pr.length + k) u = pr ++ xs.set k u ++ sp := by
    rw [List.append_assoc, List.set_append_right _ _ (by omega), Nat.add_sub_cancel_left, List.set_append_left _ _ hk, List.append_assoc]
  rw [hset] at h'
  have := Holds.to_sl (b := b') h' i pr sp (xs := xs.set k u) (T := T) (sz := sz) (m := m) (cap := cap) (by simp [hil]) (by simpa using e2) e3 e4
  rw [← hve] at this
  simpa using this
/-! ### A family of blocks of one type -/
theorem Holds.ro_less {R R' : HP} (h : Holds w (ro R' :: l)) (s : Sub R R') : Holds w (ro R :: l) := Sat.head_map (fun _ a => Sub.trans' s a) h
section
variable {H : Type} {enc : TypeId × Value → H} {base : Nat} {spare : Nat → Bool} {held : Bool} {fuel : Nat} {t : TypeId} {xs : List Value}
end
/-! ### What stays readable -/
def SlRd (v : Value) (xs : List Value) (w : World) : Prop := ∀ (k : Nat) (u : Value), xs[k]? = some u → w.cell? ⟨sb v, so v + k, none⟩ = some u
theorem Holds.slrd {T sz m : Nat} {v : Value} {xs : List Value} (h : Holds w l) (j : Nat) (hj : l[j]? = some (sl T sz v m xs)) : SlRd v xs w := fun _ _ hk => sl_cell h j hj hk
theorem SlRd.cells {v : Value} {xs : List Value} (h : SlRd v xs w) (j : Nat) {vs : List Value} (hv : (xs.drop j).take vs.length = vs) : ∀ i u, vs[i]? = some u → w.cell? ((Addr.mk (sb v) (so v + j) none).add i) = some u := by
  intro i u hi
  rw [add_mk, Nat.add_assoc]
  refine h _ _ ?_
  rw [← hv] at hi
  rw [List.getElem?_take] at hi
  split at hi
  · rw [List.getElem?_drop] at hi; exact hi
  · cases hi
theorem x_idxSlR {R : HP} {t el : TypeId} {x y : Operand} {m i sz bb : Nat} {v : Value} {xs : List Value} {z : Option Value} {k' : IntKind} {p : Addr} {ii : Int} (hx : ev n e x = v) (h : RS R sz v m xs) (hy : ev n e y = .int k' ii)
    (hu : P.underlying t = some (.slice el)) (hz : tin P el = some (sz, bb, z)) (h0 : 0 ≤ ii) (hi : ii < m) (hn : ii.toNat = i) (hp : (⟨sb v, so v + i * sz, none⟩ : Addr) = p) :
    (execOp (ev n e) ⟨d, .indexAddr t x y, ty, pos, af, g⟩).run P w = .ok (.value (.pointer (some p))) w := x_idxRS hx h hy hu hz h0 hi hn hp
/-! ### A method of what a pointer points to -/
end
end Go.Proofs.Ytiblemgccgbhoaa.Gw
set_option linter.unusedVariables false
set_option linter.unusedSimpArgs false
namespace Go.Proofs.Ytiblemgccgbhoaa.Gw
open Go Go.RowKit
section
variable {P : Program} {n : Nat} {e : Env} {w : World} {K : Value → World → Prop} {Q : Exit → Act → World → Prop} {ops : Array Oper} {rest : List Oper} {ds : List Deferred}
  {d : Option Nat} {ty : TypeId} {pos : String} {af : Array Edge} {g : Option (Nat × Bool)} {l : List SP}
/-- A text's bytes, as numbers. -/
def ints (u : ByteArray) : List Int := u.data.toList.map fun b => (b.toNat : Int)
theorem byteCells_bytesV (u : ByteArray) : byteCells u = bytesV (ints u) := by simp [byteCells, bytesV, ints]
theorem ints_length (u : ByteArray) : (ints u).length = u.size := by simp [ints]
end
end Go.Proofs.Ytiblemgccgbhoaa.Gw
set_option linter.unusedVariables false
set_option linter.unusedSimpArgs false
set_option linter.unusedSectionVars false
namespace Go.Proofs.Ytiblemgccgbhoaa.Gw
open Go Go.RowKit
section
variable {P : Program} {n : Nat} {e : Env} {w : World} {K : Value → World → Prop} {Q : Exit → Act → World → Prop} {d : Option Nat} {ty : TypeId} {pos : String} {af : Array Edge} {g : Option (Nat × Bool)} {l : List SP} {ds : List Deferred}
theorem x_strIdx {t : TypeId} {x y : Operand} {u : ByteArray} {k' : IntKind} {ii : Int} {i : Nat} {b : Int} (hx : ev n e x = .string u) (hy : ev n e y = .int k' ii) (hu : P.underlying t = some .string) (h0 : 0 ≤ ii) (hn : ii.toNat = i) (hb : (ints u)[i]? = some b) :
    (execOp (ev n e) ⟨d, .index t x y, ty, pos, af, g⟩).run P w = .ok (.value (.int .u8 b)) w := by
  subst hn
  have hi : u[ii.toNat]? = some (UInt8.ofNat b.toNat) ∧ ((UInt8.ofNat b.toNat).toNat : Int) = b := by
    simp only [ints, List.getElem?_map] at hb
    cases hc : u.data.toList[ii.toNat]? with
    | none => rw [hc] at hb; cases hb
    | some c =>
      rw [hc] at hb
      simp only [Option.map_some, Option.some.injEq] at hb
      subst hb
      have hlt := (List.getElem?_eq_some_iff.1 hc).1
      have hs : ii.toNat < u.size := by simpa using hlt
      refine ⟨?_, by simp⟩
      rw [getElem?_pos u ii.toNat hs]
      have : u[ii.toNat] = c := by
        have := (List.getElem?_eq_some_iff.1 hc).2
        rw [← this]; rfl
      rw [this]; simp
  simp only [execOp]
  refine run_v _ ?_
  rw [hx, hy]
  simp only [Instr.index, asIntOf, Sem.run_bind, Sem.run_pure, Result.andThen_ok, run_underlying hu, if_pos h0, hi.1]
  rw [hi.2]
def Byt (ns : List Int) : Prop := ∀ b ∈ ns, 0 ≤ b ∧ b < 256
theorem Byt.nil : Byt [] := fun b h => by cases h
theorem Byt.cons {a : Int} {b : List Int} (h : 0 ≤ a ∧ a < 256) (k : Byt b) : Byt (a :: b) := fun x hx => (List.mem_cons.1 hx).elim (fun e => e ▸ h) (k x)
theorem Byt.left {a b : List Int} (h : Byt (a ++ b)) : Byt a := fun x hx => h x (List.mem_append_left _ hx)
theorem Byt.right {a b : List Int} (h : Byt (a ++ b)) : Byt b := fun x hx => h x (List.mem_append_right _ hx)
/-! ### Regions whose order is open: shorter words -/
theorem A_tk {lo : List Oper} {S : World → Prop} {fuel : Nat} {ls : Array Bool} {Q : Exit → Act → World → Prop} (i : Nat) {dd : Nat} {op : Op} {v : Value} (hi : lo[i]? = some ⟨some dd, op, ty, pos, af, none⟩)
    (hc : (Region.noSelect lo.toArray && Region.free .any lo.toArray ls i && (Region.ready .any lo.toArray ls).contains i) = true)
    (hy : ∀ w, S w → (execOp (ev n e) ⟨some dd, op, ty, pos, af, none⟩).run P w = .ok (.value v) w) (hS : S w) (h : wpAnyH P .any lo.toArray Q S fuel (ls.setIfInBounds i true) (mkA n (upd e dd v) ds) w)
    (hQ : ∀ c a w, Q (.panic c) (a.put (some dd) v) w → Q (.panic c) a w := by exact fun _ _ _ h => h) :
    wpAnyH P .any lo.toArray Q S (fuel + 1) ls (mkA n e ds) w := by
  simp only [Bool.and_eq_true] at hc
  exact A_take i hi hc.1.1 hc.1.2 hc.2 rfl hQ hy hS h
theorem A_tkY {lo : List Oper} {S : World → Prop} {fuel : Nat} {ls : Array Bool} {Q : Exit → Act → World → Prop} (i : Nat) {dd j dj : Nat} {b : Bool} {op : Op} {v : Value} (hi : lo[i]? = some ⟨some dd, op, ty, pos, af, some (j, b)⟩)
    (hc : (Region.noSelect lo.toArray && Region.free .any lo.toArray ls i && (Region.ready .any lo.toArray ls).contains i) = true) (hj : (lo[j]?).bind (·.dst) = some dj) (hn : Nat.blt dj n = true) (hb : e dj = .bool b)
    (hy : ∀ w, S w → (execOp (ev n e) ⟨some dd, op, ty, pos, af, some (j, b)⟩).run P w = .ok (.value v) w) (hS : S w) (h : wpAnyH P .any lo.toArray Q S fuel (ls.setIfInBounds i true) (mkA n (upd e dd v) ds) w)
    (hQ : ∀ c a w, Q (.panic c) (a.put (some dd) v) w → Q (.panic c) a w := by exact fun _ _ _ h => h) :
    wpAnyH P .any lo.toArray Q S (fuel + 1) ls (mkA n e ds) w := by
  simp only [Bool.and_eq_true] at hc
  exact A_takeYes i hi hc.1.1 hc.1.2 hc.2 rfl hQ hj hn hb hy hS h
theorem A_tkN {lo : List Oper} {S : World → Prop} {fuel : Nat} {ls : Array Bool} {Q : Exit → Act → World → Prop} (i : Nat) {dd j dj : Nat} {b c : Bool} {op : Op} (hi : lo[i]? = some ⟨some dd, op, ty, pos, af, some (j, c)⟩)
    (hc : (Region.noSelect lo.toArray && Region.free .any lo.toArray ls i && (Region.ready .any lo.toArray ls).contains i) = true) (hj : (lo[j]?).bind (·.dst) = some dj) (hn : Nat.blt dj n = true) (hb : e dj = .bool b) (hbc : b ≠ c) (hS : S w)
    (h : wpAnyH P .any lo.toArray Q S fuel (ls.setIfInBounds i true) (mkA n (upd e dd undef) ds) w)
    (hQ : ∀ c a w, Q (.panic c) (a.put (some dd) undef) w → Q (.panic c) a w := by exact fun _ _ _ h => h) :
    wpAnyH P .any lo.toArray Q S (fuel + 1) ls (mkA n e ds) w := by
  simp only [Bool.and_eq_true] at hc
  exact A_takeNo i hi hc.1.1 hc.1.2 hc.2 rfl hQ hj hn hb hbc hS h
/-! ### Deferred calls of functions that do nothing -/
theorem Tri.intoD {f : FuncId} {fn : Func} {c : Code} {args : Array Value} {al : List Value} {R : HP} {pre : List SP} {Qc : Value → List SP → Prop} (hf : P.funcs[f]? = some fn) (hb : fn.body = some c) (hn : fn.ntmps = n)
    (ha : args = al.toArray) (hl : Nat.ble al.length n = true)
    (h : ∀ w F, Holds w (ro R :: (pre ++ F)) → c.wp P (bodyPostD P fn fun r w' => ∃ v post, r = .returned v ∧ Qc v post ∧ Same w w' ∧ Holds w' (ro R :: (post ++ F))) (mkA n (fun t => al.getD t undef) []) w) :
    Tri P f args R pre Qc := fun w F hh => Calls.intoD hf hb hn ha hl (h w F hh)
end
end Go.Proofs.Ytiblemgccgbhoaa.Gw
set_option linter.unusedVariables false
set_option linter.unusedSimpArgs false
set_option linter.unusedSectionVars false
namespace Go.Proofs.Ytiblemgccgbhoaa.Gw
open Go Go.RowKit
section
variable {P : Program} {n : Nat} {e : Env} {w : World}
end
end Go.Proofs.Ytiblemgccgbhoaa.Gw
set_option linter.unusedVariables false
set_option linter.unusedSimpArgs false
set_option linter.unusedSectionVars false
namespace Go.Proofs.Ytiblemgccgbhoaa.Gw
open Go Go.RowKit
section
variable {P : Program} {n : Nat} {e : Env} {w : World} {K : Value → World → Prop} {Q : Exit → Act → World → Prop} {d : Option Nat} {ty : TypeId} {pos : String} {af : Array Edge} {g : Option (Nat × Bool)} {l : List SP} {ds : List Deferred}
/-- A row of ours, made by the call itself: none of it is a string's. -/
def clf (b : Nat) (T : TypeId) (cs : List Value) : SP := fun h => h b = some (.cells cs.toArray T (0, 0))
end
end Go.Proofs.Ytiblemgccgbhoaa.Gw
set_option linter.unusedVariables false
set_option linter.unusedSimpArgs false
set_option linter.unusedSectionVars false
namespace Go.Proofs.Ytiblemgccgbhoaa.Gw
open Go Go.RowKit
section
variable {P : Program} {n : Nat} {e : Env} {w : World} {K : Value → World → Prop} {Q : Exit → Act → World → Prop} {d : Option Nat} {ty : TypeId} {pos : String} {af : Array Edge} {g : Option (Nat × Bool)} {l : List SP} {ds : List Deferred}
/-- As 'Tri'; what is only read may have grown. -/
def TriG (P : Program) (f : FuncId) (args : Array Value) (R : HP) (pre : List SP) (Q : HP → Value → List SP → Prop) : Prop :=
  ∀ (w : World) (F : List SP), Holds w (ro R :: (pre ++ F)) →
    Calls P f args w fun e w' => ∃ R' v post, e = .returned v ∧ Sub R R' ∧ Q R' v post ∧ Same w w' ∧ Holds w' (ro R' :: (post ++ F))
theorem TriG.into {f : FuncId} {fn : Func} {c : Code} {args : Array Value} {al : List Value} {R : HP} {pre : List SP} {Qc : HP → Value → List SP → Prop} (hf : P.funcs[f]? = some fn) (hb : fn.body = some c) (hn : fn.ntmps = n)
    (ha : args = al.toArray) (hl : Nat.ble al.length n = true)
    (h : ∀ w F, Holds w (ro R :: (pre ++ F)) → c.wp P (bodyPost P fn fun r w' => ∃ R' v post, r = .returned v ∧ Sub R R' ∧ Qc R' v post ∧ Same w w' ∧ Holds w' (ro R' :: (post ++ F))) (mkA n (fun t => al.getD t undef) []) w) :
    TriG P f args R pre Qc := fun w F hh => Calls.into hf hb hn ha hl (h w F hh)
theorem T_callG {f : FuncId} {x : Operand} {lo : List Operand} {cl al : List Value} {at_ : Array TypeId} {R : HP} {pre F : List SP} {Qc : HP → Value → List SP → Prop}
    (hx : ev n e x = .func (.func f) #[] cl.toArray) (ha : lo.map (ev n e) ++ cl = al) (hc : callable P f = true) (ht : TriG P f al.toArray R pre Qc) (h : Holds w (ro R :: (pre ++ F)))
    (k : ∀ R' v post w', Sub R R' → Qc R' v post → Same w w' → Holds w' (ro R' :: (post ++ F)) → K v w') : Stp P n e ⟨d, .call { callee := .value x, args := lo.toArray, argTypes := at_ }, ty, pos, af, g⟩ w K :=
  T_callW hx ha hc ((ht w F h).mono fun r w' ⟨R', v, post, er, hs, q, s, hh⟩ => ⟨v, er, k R' v post w' hs q s hh⟩)
end
end Go.Proofs.Ytiblemgccgbhoaa.Gw
set_option linter.unusedVariables false
set_option linter.unusedSimpArgs false
set_option linter.unusedSectionVars false
namespace Go.Proofs.Ytiblemgccgbhoaa.Gw
open Go Go.RowKit
section
variable {P : Program} {n : Nat} {e : Env} {w : World}
def K2 (a : Int × Int) : Value := .agg #[.int .i64 a.1, .int .i64 a.2]
structure PairT (P : Program) (k t : TypeId) (f0 f1 : Field) : Prop where
  hk : P.underlying k = some (.struct #[f0, f1])
  hs : P.stoodInHeld k = false
  n0 : (f0.name == "_") = false
  n1 : (f1.name == "_") = false
  t0 : f0.type = t
  t1 : f1.type = t
  o0 : f0.offset = 0
  o1 : f1.offset = 1
  ht : P.underlying t = some (.int .i64)
theorem PairT.eq {k t : TypeId} {f0 f1 : Field} (h : PairT P k t f0 f1) (a b : Int × Int) : (Op.equal k (K2 a) (K2 b)).run P w = .ok (decide (a = b)) w := by
  have h0 : (part f0.type #[.int .i64 a.1, .int .i64 a.2] f0.offset).run P w = .ok (.int .i64 a.1) w := by rw [h.t0, h.o0]; exact run_part1 h.ht rfl rfl
  have h1 : (part f0.type #[.int .i64 b.1, .int .i64 b.2] f0.offset).run P w = .ok (.int .i64 b.1) w := by rw [h.t0, h.o0]; exact run_part1 h.ht rfl rfl
  have h2 : (part f1.type #[.int .i64 a.1, .int .i64 a.2] f1.offset).run P w = .ok (.int .i64 a.2) w := by rw [h.t1, h.o1]; exact run_part1 h.ht rfl rfl
  have h3 : (part f1.type #[.int .i64 b.1, .int .i64 b.2] f1.offset).run P w = .ok (.int .i64 b.2) w := by rw [h.t1, h.o1]; exact run_part1 h.ht rfl rfl
  have e0 : (Op.equalIn (9998 + 1) f0.type (.int .i64 a.1) (.int .i64 b.1)).run P w = .ok (decide (a.1 = b.1)) w := by rw [h.t0]; exact eq_int h.ht
  have e1 : (Op.equalIn (9998 + 1) f1.type (.int .i64 a.2) (.int .i64 b.2)).run P w = .ok (decide (a.2 = b.2)) w := by rw [h.t1]; exact eq_int h.ht
  have hh : (Op.equalIn (9999 + 1) k (K2 a) (K2 b)).run P w = .ok (decide (a.1 = b.1) && (decide (a.2 = b.2) && true)) w :=
    eq_struct h.hk h.hs (eqf_cons h.n0 h0 h1 e0 (eqf_cons h.n1 h2 h3 e1 eqf_nil))
  have e2 : (decide (a.1 = b.1) && (decide (a.2 = b.2) && true)) = decide (a = b) := by
    obtain ⟨a1, a2⟩ := a; obtain ⟨b1, b2⟩ := b
    by_cases x : a1 = b1 <;> by_cases y : a2 = b2 <;> simp [x, y]
  rw [← e2]; exact hh
theorem PairT.asking {k t : TypeId} {f0 f1 : Field} (h : PairT P k t f0 f1) (a : Int × Int) : ∀ (es : List MapEntry) (m : List (Int × Int)) (i : Nat), es.map (·.key) = m.map K2 →
    (Instr.findAsking k (K2 a) es i).run P w = .ok ((m.findIdx? (· = a)).bind fun j => (es[j]?).map fun e => (i + j, e.val)) w
  | [], [], i, _ => by simp [Instr.findAsking]
  | [], _ :: _, i, hm => by simp at hm
  | _ :: _, [], i, hm => by simp at hm
  | e :: es, x :: m, i, hm => by
    simp only [List.map_cons, List.cons.injEq] at hm
    have ih := h.asking a es m (i + 1) hm.2
    unfold Instr.findAsking
    rw [hm.1]
    simp only [Sem.run_bind, h.eq a x, Result.andThen_ok]
    by_cases hx : x = a
    · subst hx
      simp [List.findIdx?_cons]
    · have hx' : ¬ a = x := fun e => hx e.symm
      simp only [hx', decide_false, List.findIdx?_cons, hx]
      simp only [Bool.false_eq_true, if_false, ih]
      cases hm2 : List.findIdx? (fun x => decide (x = a)) m with
      | none => simp
      | some j => simp [Nat.add_assoc, Nat.add_comm 1 j]
theorem KeyKind.pair {k t : TypeId} {f0 f1 : Field} (h : PairT P k t f0 f1) : KeyKind P k K2 where
  inj := fun a b e => by
    simp only [K2, Value.agg.injEq, Array.mk.injEq, List.cons.injEq, Value.int.injEq, true_and, and_true] at e
    exact Prod.ext e.1 e.2
  check := fun w em a => by
    have h0 : (part f0.type #[.int .i64 a.1, .int .i64 a.2] f0.offset).run P w = .ok (.int .i64 a.1) w := by rw [h.t0, h.o0]; exact run_part1 h.ht rfl rfl
    have h2 : (part f1.type #[.int .i64 a.1, .int .i64 a.2] f1.offset).run P w = .ok (.int .i64 a.2) w := by rw [h.t1, h.o1]; exact run_part1 h.ht rfl rfl
    have c0 : (Instr.checkKey em (9998 + 1) f0.type (.int .i64 a.1)).run P w = .ok () w := by rw [h.t0]; exact checkKey_int h.ht em _ 9998
    have c1 : (Instr.checkKey em (9998 + 1) f1.type (.int .i64 a.2)).run P w = .ok () w := by rw [h.t1]; exact checkKey_int h.ht em _ 9998
    have n0 : ¬ f0.name = "_" := by simpa using h.n0
    have n1 : ¬ f1.name = "_" := by simpa using h.n1
    have e1 : (10000 : Nat) = (9998 + 1) + 1 := rfl
    rw [e1]
    unfold Instr.checkKey
    simp only [Sem.run_bind, run_underlying h.hk, Result.andThen_ok, K2]
    simp [n0, n1, h0, h2, c0, c1]
  find := fun w a es m hm => by
    simp only [Instr.findKey, Sem.run_bind, run_underlying h.hk, Result.andThen_ok]
    cases es with
    | nil =>
      cases m with
      | nil => simp [Instr.findNow]
      | cons _ _ => simp at hm
    | cons e es =>
      have hn : Instr.findNow (.struct #[f0, f1]) (K2 a) (e :: es) 0 = none := by simp [Instr.findNow, Instr.sameNow]
      simp only [hn]
      have := h.asking (w := w) a (e :: es) m 0 hm
      simpa using this
  stays := fun w a => by
    have hb : Instr.sameBits 10000 (K2 a) (K2 a) = true := by
      show Instr.sameBits (9999 + 1) (K2 a) (K2 a) = true
      simp [K2, Instr.sameBits, sameBits_int]
    simp only [Instr.keyThatStays, hb, if_true]; rfl
end
end Go.Proofs.Ytiblemgccgbhoaa.Gw
set_option linter.unusedVariables false
set_option linter.unusedSimpArgs false
set_option linter.unusedSectionVars false
namespace Go.Proofs.Ytiblemgccgbhoaa.Gw
open Go Go.RowKit
section
variable {α : Type} [DecidableEq α] {m : List (α × Value)}
end
section
variable {P : Program} {n : Nat} {e : Env} {w : World} {K : Value → World → Prop} {d : Option Nat} {ty : TypeId} {pos : String} {af : Array Edge} {g : Option (Nat × Bool)} {l : List SP}
/-- An element of several cells, put into a slice of ours. -/
theorem T_storeSlN {t T bb sz m k s : Nat} {z : Option Value} {x y : Operand} {off : Nat} {b : Nat} {v : Value} {vs xs : List Value} (hx : ev n e x = .pointer (some ⟨b, off, none⟩)) (hy : ev n e y = .agg vs.toArray) (hz : tin P t = some (s, bb, z))
    (hs : vs.length = s) (hv : ∀ u ∈ vs, u.oneCell' = true) (h : Holds w l) (i : Nat) (hi : l[i]? = some (sl T sz v m xs)) (hk : k + vs.length ≤ xs.length) (hs0 : 0 < vs.length) (hb : b = sb v) (ho : off = so v + k)
    (c : ∀ w', Same w w' → Holds w' (l.set i (sl T sz v m (xs.take k ++ vs ++ xs.drop (k + vs.length)))) → K undef w') :
    Stp P n e ⟨d, .store t x y, ty, pos, af, g⟩ w K := by
  subst hb; subst ho
  have hlen : xs.length = m * sz := (h.sl_RSw i hi).1
  have hm : 0 < m := by
    rcases Nat.eq_zero_or_pos m with h0 | h0
    · rw [h0, Nat.zero_mul] at hlen; omega
    · exact h0
  obtain ⟨b', pr, sp, cap, hve, e2, e3, e4, hh⟩ := h.sl_open i hi hm
  have es : sb v = b' := by rw [hve]; rfl
  have eo : so v = pr.length := by rw [hve]; rfl
  have hil : i < l.length := (List.getElem?_eq_some_iff.1 hi).1
  rw [es, eo] at hx
  refine T_storeN hx hy hz hs hv hh i (T := T) (cs := pr ++ xs ++ sp) (by simp [hil]) (by simp; omega) fun w' s' h' => c w' s' ?_
  have hset : List.take (pr.length + k) (pr ++ xs ++ sp) ++ vs ++ List.drop (pr.length + k + vs.length) (pr ++ xs ++ sp) = pr ++ (xs.take k ++ vs ++ xs.drop (k + vs.length)) ++ sp := by
    have h1 : List.take (pr.length + k) (pr ++ xs ++ sp) = pr ++ xs.take k := by
      rw [List.append_assoc, List.take_append, List.take_of_length_le (by omega), show pr.length + k - pr.length = k by omega, List.take_append_of_le_length (by omega)]
    have h2 : List.drop (pr.length + k + vs.length) (pr ++ xs ++ sp) = xs.drop (k + vs.length) ++ sp := by
      rw [List.append_assoc, List.drop_append, List.drop_eq_nil_of_le (by omega), show pr.length + k + vs.length - pr.length = k + vs.length by omega, List.nil_append, List.drop_append_of_le_length (by omega)]
    rw [h1, h2]; simp [List.append_assoc]
  rw [hset, List.set_set] at h'
  have := Holds.map_at (B := sl T sz v m (xs.take k ++ vs ++ xs.drop (k + vs.length))) h' i (by simp [hil]) fun h'' a =>
    .inr ⟨b', pr, sp, cap, hve, by simp only [List.length_append, List.length_take, List.length_drop]; omega, e3, e4, a⟩
  rwa [List.set_set] at this
end
end Go.Proofs.Ytiblemgccgbhoaa.Gw
set_option linter.unusedVariables false
set_option linter.unusedSimpArgs false
namespace Go.Proofs.Ytiblemgccgbhoaa.Gw
open Go Go.RowKit
section
variable {P : Program} {n : Nat} {e : Env} {w : World} {l : List SP} {K : Value → World → Prop} {d : Option Nat} {ty : TypeId} {pos : String} {af : Array Edge} {g : Option (Nat × Bool)}
theorem Holds.mark {w : World} {l : List SP} (h : Holds w l) (i : Nat) {b T : Nat} {cs : List Value} (hi : l[i]? = some (clf b T cs)) :
    w.shape? b = some (T, cs.length) ∧ Holds (w.freeze ⟨b, cs.length, none⟩ 1) (l.set i (cl b T cs)) := by
  have he : w.heap[b]? = some (.cells cs.toArray T (0, 0)) := by
    obtain ⟨h1, k, s, t, d, e, r⟩ := Sat.bring i hi h
    exact s _ _ e
  refine ⟨by simp [World.shape?, he], ?_⟩
  have hw : hp (w.freeze ⟨b, cs.length, none⟩ 1) = upb (hp w) b (.cells cs.toArray T (cs.length, cs.length + 1)) := by
    refine hp_setBlock _ _ _ _ ?_ (fun c hc => ?_)
    · unfold World.freeze
      rw [if_neg (by decide)]
      simp only [Array.getElem?_modify, if_true, he, Option.map_some]
      rfl
    · unfold World.freeze
      rw [if_neg (by decide)]
      simp only [Array.getElem?_modify, if_neg (Ne.symm hc)]
  unfold Holds
  rw [hw]
  refine Sat.upb_at i hi h (fun h e' => ⟨_, e'⟩) fun h _ => ⟨(cs.length, cs.length + 1), by simp [upb], ?_⟩
  intro j hj ⟨h1, _⟩
  exact absurd h1 (Nat.not_le.2 hj)
theorem Holds.resl (h : Holds w l) (i : Nat) {T sz m m' : Nat} {v : Value} {xs xs' : List Value} (hi : l[i]? = some (sl T sz v m xs)) (hx : xs = xs') (hm : m = m') : Holds w (l.set i (sl T sz v m' xs')) := by
  subst hx; subst hm
  exact h.map_at i hi fun _ a => a
theorem Holds.recl (h : Holds w l) (i : Nat) {b T : Nat} {cs cs' : List Value} (hi : l[i]? = some (cl b T cs)) (hc : cs = cs') : Holds w (l.set i (cl b T cs')) := by
  subst hc
  exact h.map_at i hi fun _ a => a
/-- Pieces, one after the other, each counted among those that are left; of these the first n are let go. -/
def pk (n : Nat) : List SP → List Nat → List SP
  | l, [] => l.drop n
  | l, i :: r => match l[i]? with
    | some A => A :: pk n (l.eraseIdx i) r
    | none => []
theorem Sat.drop_ : ∀ (n : Nat) {l : List SP} {g : HP}, Sat l g → Sat (l.drop n) g
  | 0, _, _, h => h
  | _ + 1, [], _, h => h
  | n + 1, _ :: _, _, h => Sat.drop_ n (Sat.tail h)
theorem Sat.pk_ (n : Nat) : ∀ (idx : List Nat) {l : List SP} {g : HP}, Sat l g → Sat (pk n l idx) g
  | [], _, _, h => Sat.drop_ n h
  | i :: r, l, g, h => by
    unfold pk
    split
    · rename_i A e
      exact Sat.cons_map (fun g h => Sat.pk_ n r h) (Sat.bring i e h)
    · trivial
theorem Holds.pkF (h : Holds w l) (idx : List Nat) (n : Nat) : Holds w (pk n l idx) := Sat.pk_ n idx h
theorem Holds.drew_ (h : Holds w l) : Holds w.drew l := h
theorem run_results4 {P : Program} {n : Nat} {e : Env} {w : World} {ds : List Deferred} {fn : Func} {r s t q : ResultVar} {v u x y : Value} (hr : fn.results = #[r, s, t, q]) (h : resRun P n e w r v) (h' : resRun P n e w s u) (h'' : resRun P n e w t x) (h3 : resRun P n e w q y) :
    (results fn (mkA n e ds).tmps).run P w = .ok (.tuple #[v, u, x, y]) w := by
  cases r <;> cases s <;> cases t <;> cases q <;> simp only [resRun] at h h' h'' h3 <;> (try obtain ⟨p, h1, h2⟩ := h) <;> (try obtain ⟨p', h1', h2'⟩ := h') <;> (try obtain ⟨p'', h1'', h2''⟩ := h'') <;> (try obtain ⟨p3, h13, h23⟩ := h3) <;>
    simp_all [results, ev_getO, asAddr]
end
end Go.Proofs.Ytiblemgccgbhoaa.Gw
set_option linter.unusedVariables false
set_option linter.unusedSimpArgs false
namespace Go.Proofs.Ytiblemgccgbhoaa
open Go Go.RowKit Gw
open Go.Value renaming int → vI, bool → vB, slice → vS, pointer → vP, agg → vA, tuple → vT

structure RV where
  main : Int
  sub : Int
def RV.cells (x : RV) : List Value := [(vI .i64 x.main), (vI .i64 x.sub)]
theorem RV.len (x : RV) : x.cells.length = 2 := rfl

structure VR where
  rev_Main : Int
  rev_Sub : Int
  created_Main : Int
  created_Sub : Int
  ver : Int
  gone : Bool
def VR.cells (x : VR) : List Value := [(vI .i64 x.rev_Main), (vI .i64 x.rev_Sub), (vI .i64 x.created_Main), (vI .i64 x.created_Sub), (vI .i64 x.ver), (vB x.gone)]
theorem VR.len (x : VR) : x.cells.length = 6 := rfl

structure KO where
  kind : Int
  rev_Main : Int
  rev_Sub : Int
  created_Main : Int
  created_Sub : Int
  ver : Int
  at_ : Int
def KO.cells (x : KO) : List Value := [(vI .i64 x.kind), (vI .i64 x.rev_Main), (vI .i64 x.rev_Sub), (vI .i64 x.created_Main), (vI .i64 x.created_Sub), (vI .i64 x.ver), (vI .i64 x.at_)]
theorem KO.len (x : KO) : x.cells.length = 7 := rfl

structure GN where
  ver : Int
  created_Main : Int
  created_Sub : Int
  revs : Value
  l : List RV
def GN.cells (x : GN) : List Value := [(vI .i64 x.ver), (vI .i64 x.created_Main), (vI .i64 x.created_Sub), x.revs]
theorem GN.len (x : GN) : x.cells.length = 4 := rfl

structure KA where
  oK : Bool
  mod_Main : Int
  mod_Sub : Int
  created_Main : Int
  created_Sub : Int
  ver : Int
  revs : Value
  dump_Modified_Main : Int
  dump_Modified_Sub : Int
  dump_Gens : Value
  rl : List RV
  gl : List GN
def KA.cells (x : KA) : List Value := [(vB x.oK), (vI .i64 x.mod_Main), (vI .i64 x.mod_Sub), (vI .i64 x.created_Main), (vI .i64 x.created_Sub), (vI .i64 x.ver), x.revs, (vI .i64 x.dump_Modified_Main), (vI .i64 x.dump_Modified_Sub), x.dump_Gens]
theorem KA.len (x : KA) : x.cells.length = 10 := rfl

def vNone : VR := ⟨0, 0, 0, 0, 0, true⟩
def vLast (l : List VR) : VR := l.getLast?.getD vNone
theorem vLast_at {l : List VR} {x : VR} {k : Nat} (h : l[k]? = some x) (hk : k + 1 = l.length) : vLast l = x := by
  unfold vLast
  rw [List.getLast?_eq_getElem?, show l.length - 1 = k by omega, h]; rfl
theorem vLast_nil' {l : List VR} (h : (l.length : Int) = 0) : vLast l = vNone := by
  have e : l = [] := List.eq_nil_of_length_eq_zero (by omega)
  rw [e]; rfl
theorem vLast_pos {l : List VR} (h : (!(vLast l).gone) = true) : 0 < l.length := by
  cases l with
  | nil => simp [vLast, vNone] at h
  | cons a l => simp
theorem vLast_snoc (l : List VR) (x : VR) : vLast (l ++ [x]) = x := by simp [vLast]
def vPut (l : List VR) (m s : Int) : VR := if (vLast l).gone then ⟨m, s, m, s, 1, false⟩ else ⟨m, s, (vLast l).created_Main, (vLast l).created_Sub, (vLast l).ver + 1, false⟩
def vEnd (l : List VR) (m s : Int) : VR := ⟨m, s, (vLast l).created_Main, (vLast l).created_Sub, (vLast l).ver + 1, true⟩
def vLessB (a b c d : Int) : Bool := decide (a < c ∨ (a = c ∧ b < d))
/-- One more than the place of the last one among the first n whose number is at most a number. -/
def vLastN (l : List VR) (at_ : Int) : Nat → Nat
  | 0 => 0
  | n + 1 => match l[n]? with
    | some v => if v.rev_Main ≤ at_ then n + 1 else vLastN l at_ n
    | none => vLastN l at_ n
theorem vLastN_yes {l : List VR} {at_ : Int} {n : Nat} {v : VR} (h : l[n]? = some v) (hv : v.rev_Main ≤ at_) : vLastN l at_ (n + 1) = n + 1 := by
  simp [vLastN, h, hv]
theorem vLastN_no {l : List VR} {at_ : Int} {n : Nat} {v : VR} (h : l[n]? = some v) (hv : ¬ v.rev_Main ≤ at_) : vLastN l at_ (n + 1) = vLastN l at_ n := by
  simp [vLastN, h, hv]
theorem vLastN_yes' {l : List VR} {at_ : Int} {n : Nat} {v : VR} (h : l[((n : Int) - 1).toNat]? = some v) (hn : 0 < n) (hv : v.rev_Main ≤ at_) : vLastN l at_ n = n := by
  obtain ⟨m, rfl⟩ : ∃ m, n = m + 1 := ⟨n - 1, by omega⟩
  rw [show ((m + 1 : Nat) : Int) - 1 = (m : Int) by omega, Int.toNat_natCast] at h
  exact vLastN_yes h hv
theorem vLastN_no' {l : List VR} {at_ : Int} {n : Nat} {v : VR} (h : l[((n : Int) - 1).toNat]? = some v) (hn : 0 < n) (hv : ¬ v.rev_Main ≤ at_) : vLastN l at_ n = vLastN l at_ (n - 1) := by
  obtain ⟨m, rfl⟩ : ∃ m, n = m + 1 := ⟨n - 1, by omega⟩
  rw [show ((m + 1 : Nat) : Int) - 1 = (m : Int) by omega, Int.toNat_natCast] at h
  exact vLastN_no h hv
theorem vLastN_le (l : List VR) (at_ : Int) (n : Nat) : vLastN l at_ n ≤ n := by
  induction n with
  | zero => exact Nat.le_refl 0
  | succ n ih =>
    unfold vLastN
    split
    · split <;> omega
    · omega
def vZero : VR := ⟨0, 0, 0, 0, 0, false⟩
def vHoldX (l : List VR) (at_ : Int) : Option VR := if vLastN l at_ l.length = 0 then none else (l[vLastN l at_ l.length - 1]?).bind fun v => if v.gone then none else some v
def vHold (l : List VR) (at_ : Int) : VR := (vHoldX l at_).getD vZero
def vHoldB (l : List VR) (at_ : Int) : Bool := (vHoldX l at_).isSome
theorem vHold_zero {l : List VR} {at_ : Int} (h : (vLastN l at_ l.length : Int) - 1 < 0) : vHoldX l at_ = none := by
  unfold vHoldX
  rw [if_pos (by omega)]
theorem vHold_at {l : List VR} {at_ : Int} {v : VR} (h : l[((vLastN l at_ l.length : Int) - 1).toNat]? = some v) (h0 : ¬ (vLastN l at_ l.length : Int) - 1 < 0) : vHoldX l at_ = if v.gone then none else some v := by
  unfold vHoldX
  rw [if_neg (by omega), show vLastN l at_ l.length - 1 = ((vLastN l at_ l.length : Int) - 1).toNat by omega, h]; rfl
def vStay (l : List VR) (at_ : Int) (i : Nat) (v : VR) : Bool := decide (at_ < v.rev_Main ∨ (i + 1 = vLastN l at_ l.length ∧ (v.gone = false ∨ v.rev_Main = at_)))
def VR.rv (v : VR) : RV := ⟨v.rev_Main, v.rev_Sub⟩
def vSieve (l : List VR) (p : Nat → VR → Bool) : Nat → List VR
  | 0 => []
  | k + 1 => vSieve l p k ++ (match l[k]? with | some v => if p k v then [v] else [] | none => [])
theorem vSieve_yes {l : List VR} {p : Nat → VR → Bool} {k : Nat} {v : VR} (h : l[k]? = some v) (hp : p k v = true) : vSieve l p (k + 1) = vSieve l p k ++ [v] := by
  simp [vSieve, h, hp]
theorem vSieve_no {l : List VR} {p : Nat → VR → Bool} {k : Nat} {v : VR} (h : l[k]? = some v) (hp : p k v = false) : vSieve l p (k + 1) = vSieve l p k := by
  simp [vSieve, h, hp]
theorem vSieve_len (l : List VR) (p : Nat → VR → Bool) (k : Nat) : (vSieve l p k).length ≤ k := by
  induction k with
  | zero => simp [vSieve]
  | succ k ih =>
    unfold vSieve
    rw [List.length_append]
    split
    · split <;> simp <;> omega
    · simp; omega
def vCompact (l : List VR) (at_ : Int) : List VR := vSieve l (vStay l at_) l.length
def vKept (l : List VR) (at_ : Int) (ends : Bool) : List RV := (vSieve l (fun i v => decide (v.rev_Main ≤ at_) && vStay l at_ i v && (ends || !v.gone)) l.length).map VR.rv
def vSinceP (l : List VR) (at_ : Int) (i : Nat) (v : VR) : Bool := decide (at_ ≤ v.rev_Main) && (match l[i + 1]? with | some u => decide (u.rev_Main ≠ v.rev_Main) | none => true)
def vSince (l : List VR) (at_ : Int) : List RV := (vSieve l (vSinceP l at_) l.length).map VR.rv
theorem vSinceP_lt {l : List VR} {at_ : Int} {i : Nat} {v : VR} (h : ¬ at_ ≤ v.rev_Main) : vSinceP l at_ i v = false := by
  unfold vSinceP
  rw [decide_eq_false (by omega), Bool.false_and]
theorem vSinceP_end {l : List VR} {at_ : Int} {i : Nat} {v : VR} (h : at_ ≤ v.rev_Main) (hi : (i : Int) = (l.length : Int) - 1) : vSinceP l at_ i v = true := by
  unfold vSinceP
  rw [decide_eq_true (by omega), List.getElem?_eq_none (by omega)]; rfl
theorem vSinceP_next {l : List VR} {at_ : Int} {i : Nat} {v u : VR} (h : at_ ≤ v.rev_Main) (hu : l[i + 1]? = some u) : vSinceP l at_ i v = decide (u.rev_Main ≠ v.rev_Main) := by
  unfold vSinceP
  rw [decide_eq_true (by omega), hu, Bool.true_and]
theorem rv_take_snoc {L : List VR} {k : Nat} {x : VR} (h : L[k]? = some x) : L.take (k + 1) = L.take k ++ [x] := by
  rw [List.take_add_one, h]; rfl
/-- A life: how often, from when on, which revisions. -/
structure GM where
  ver : Int
  cm : Int
  cs : Int
  l : List RV
def GN.m (x : GN) : GM := ⟨x.ver, x.created_Main, x.created_Sub, x.l⟩
/-- The last life's revisions are ours. -/
def Tlk (T : List GN) (lv : Value) (ll : List RV) : Prop := (T = [] ∧ lv = .slice none 0 0 ∧ ll = []) ∨ ∃ a b c, T = [⟨a, b, c, lv, ll⟩]
def GOk (R : HP) (x : GN) : Prop := RS R 2 x.revs x.l.length (x.l.flatMap RV.cells)
theorem GOk.mono {R R' : HP} {x : GN} (h : GOk R x) (s : Sub R R') : GOk R' x := RS.mono h s
/-- Lives that are only read. -/
def GS (R : HP) (v : Value) (G : List GM) : Prop := ∃ N : List GN, N.map GN.m = G ∧ RS R 4 v N.length (N.flatMap GN.cells) ∧ ∀ x ∈ N, GOk R x
theorem GS.mono {R R' : HP} {v : Value} {G : List GM} (h : GS R v G) (s : Sub R R') : GS R' v G := by
  obtain ⟨N, h1, h2, h3⟩ := h
  exact ⟨N, h1, h2.mono s, fun x hx => (h3 x hx).mono s⟩
structure KM where
  ok : Bool
  mm : Int
  ms : Int
  cm : Int
  cs : Int
  ver : Int
  rl : List RV
  dm : Int
  ds : Int
  gl : List GM
def KA.m (x : KA) : KM := ⟨x.oK, x.mod_Main, x.mod_Sub, x.created_Main, x.created_Sub, x.ver, x.rl, x.dump_Modified_Main, x.dump_Modified_Sub, x.gl.map GN.m⟩
def KOk (R : HP) (x : KA) : Prop := RS R 2 x.revs x.rl.length (x.rl.flatMap RV.cells) ∧ RS R 4 x.dump_Gens x.gl.length (x.gl.flatMap GN.cells) ∧ ∀ y ∈ x.gl, GOk R y
theorem KOk.mono {R R' : HP} {x : KA} (h : KOk R x) (s : Sub R R') : KOk R' x := ⟨h.1.mono s, h.2.1.mono s, fun y hy => (h.2.2 y hy).mono s⟩

end Go.Proofs.Ytiblemgccgbhoaa
set_option linter.unusedVariables false
set_option linter.unusedSimpArgs false
namespace Go.Proofs.Ytiblemgccgbhoaa
open Go Go.RowKit Gw
open Go.Value renaming int → vI, bool → vB, slice → vS, pointer → vP, agg → vA, tuple → vT

set_option maxHeartbeats 1600000 in
theorem kModified (R : HP) (v : Value) (L : List VR) (hL : RS R 6 v (List.length L) (L.flatMap VR.cells)) (hl : L.length ≤ 10000) :
    Tri Try.prog 17 #[v] R [] (fun v__ post__ => v__ = (vA #[(vI .i64 ((vLast L).rev_Main)), (vI .i64 ((vLast L).rev_Sub))]) ∧ post__ = []) := by
 refine Tri.into (n := 14) (al := [v]) Try.func17 rfl Try.ntmps17 rfl rfl fun w F H => ?_
 refine C_seq (fun K1_ hK1_ => C_reg ?_)
 refine S_list (T_alloc z31 H ?_)
 intro b2_ w3_ S5_ H4_
 have S6_ := Same.trans (Same.refl w) S5_
 refine wpList_nil (X_then (hK1_ _ _ ?_))
 clear hK1_
 refine C_seq (fun K7_ hK7_ => ?_)
 refine C_seq (fun K8_ hK8_ => C_reg ?_)
 refine sv (v := v) (x_move rfl) ?_
 refine sv (v := (vI .i64 ((List.length L) : Int))) (x_lenRS rfl hL Try.underlying23) ?_
 refine sv (v := (vB (decide (((List.length L) : Int) = 0)))) (x_bin rfl rfl rfl) ?_
 refine wpList_nil (X_then (hK8_ _ _ ?_))
 clear hK8_
 refine C_cond (b := decide (((List.length L) : Int) = 0)) rfl (fun c9_t => ?_) (fun c9_f => ?_)
 ·have c9_tp : ((List.length L) : Int) = 0 := of_decide_eq_true c9_t
  refine C_seq (fun K10_ hK10_ => C_reg ?_)
  refine sv (v := (vA #[(vI .i64 0), (vI .i64 0)])) (by kernel_rfl) ?_
  refine S_list0 (T_storeN (vs := [(vI .i64 0), (vI .i64 0)]) rfl rfl z31 rfl (by simp [Value.oneCell']) H4_ 0 rfl (Nat.le_of_ble_eq_true (by rfl)) ?_)
  intro w11_ S13_ H12_
  have S14_ := Same.trans S6_ S13_
  refine wpList_nil (X_then (hK10_ _ _ ?_))
  clear hK10_
  refine C_ret (X_thenR ?_)
  refine R_any (v := (vA #[(vI .i64 0), (vI .i64 0)])) (run_results1 rfl ⟨_, rfl, load_resN Try.underlying31 rfl z31 rfl (vs := [(vI .i64 0), (vI .i64 0)]) (Holds.cl_cells H12_ 0 rfl 0 rfl)⟩) ?_
  have H15_ : Holds w11_ (ro R :: F) := (Holds.pkF H12_ [1] 1 :)
  exact ⟨_, _, rfl, ⟨(congrArg (fun l => vA (List.toArray l)) (lcons (congrArg (vI .i64) ((by first | rfl | (simp_all [vNone]; done) | (rw [vLast_nil' (by simp_all)]; rfl) | (simp [hvl_]; done)) : 0 = (vLast L).rev_Main)) (lcons (congrArg (vI .i64) ((by first | rfl | (simp_all [vNone]; done) | (rw [vLast_nil' (by simp_all)]; rfl) | (simp [hvl_]; done)) : 0 = (vLast L).rev_Sub)) rfl))), rfl⟩, S14_, H15_⟩
 ·have c9_fp : ¬ (((List.length L) : Int) = 0) := of_decide_eq_false c9_f
  refine C_skip (X_then (hK7_ _ _ ?_))
  clear hK7_
  refine C_seq (fun K16_ hK16_ => C_reg ?_)
  refine sv (v := v) (x_move rfl) ?_
  refine sv (v := v) (x_move rfl) ?_
  refine sv (v := (vI .i64 ((List.length L) : Int))) (x_lenRS rfl hL Try.underlying23) ?_
  refine sv (v := (vI .i64 (((List.length L) : Int) - 1))) (x_bin rfl rfl (ib_sub (IntWalk.i64_in _ (by omega)))) ?_
  obtain ⟨x17_, hx18_, hm19_⟩ := elem_at L ((((List.length L) : Int) - 1).toNat) (by omega)
  have hvl_ := vLast_at hx18_ (by omega)
  refine sv (v := (vP (some ⟨(sb v), so v + (((((List.length L) : Int) - 1).toNat) * 6 + 0), none⟩))) (x_idxRS (v := v) rfl hL rfl Try.underlying23 z66 (by omega) (by omega) (by omega : _ = (((List.length L) : Int) - 1).toNat) rfl) ?_
  refine sv (v := (vP (some ⟨(sb v), so v + (((((List.length L) : Int) - 1).toNat) * 6 + 0), none⟩))) (by kernel_rfl) ?_
  refine sv (v := (vA #[(vI .i64 x17_.rev_Main), (vI .i64 x17_.rev_Sub)])) (x_loadN (vs := [(vI .i64 x17_.rev_Main), (vI .i64 x17_.rev_Sub)]) rfl Try.underlying31 rfl z31 rfl (RC.cells (RS.rc hL) (Holds.ro_at H4_ 1 rfl) (((((List.length L) : Int) - 1).toNat) * 6 + 0) (fm_cells VR.len hx18_ (i := 0) rfl))) ?_
  refine S_list0 (T_storeN (vs := [(vI .i64 x17_.rev_Main), (vI .i64 x17_.rev_Sub)]) rfl rfl z31 rfl (by simp [Value.oneCell']) H4_ 0 rfl (Nat.le_of_ble_eq_true (by rfl)) ?_)
  intro w20_ S22_ H21_
  have S23_ := Same.trans S6_ S22_
  refine wpList_nil (X_then (hK16_ _ _ ?_))
  clear hK16_
  refine C_ret ?_
  refine R_any (v := (vA #[(vI .i64 x17_.rev_Main), (vI .i64 x17_.rev_Sub)])) (run_results1 rfl ⟨_, rfl, load_resN Try.underlying31 rfl z31 rfl (vs := [(vI .i64 x17_.rev_Main), (vI .i64 x17_.rev_Sub)]) (Holds.cl_cells H21_ 0 rfl 0 rfl)⟩) ?_
  have H24_ : Holds w20_ (ro R :: F) := (Holds.pkF H21_ [1] 1 :)
  exact ⟨_, _, rfl, ⟨(congrArg (fun l => vA (List.toArray l)) (lcons (congrArg (vI .i64) ((by first | rfl | (simp_all [vNone]; done) | (rw [vLast_nil' (by simp_all)]; rfl) | (simp [hvl_]; done)) : x17_.rev_Main = (vLast L).rev_Main)) (lcons (congrArg (vI .i64) ((by first | rfl | (simp_all [vNone]; done) | (rw [vLast_nil' (by simp_all)]; rfl) | (simp [hvl_]; done)) : x17_.rev_Sub = (vLast L).rev_Sub)) rfl))), rfl⟩, S23_, H24_⟩

set_option maxHeartbeats 1600000 in
theorem kLives (R : HP) (v : Value) (L : List VR) (hL : RS R 6 v (List.length L) (L.flatMap VR.cells)) (hl : L.length ≤ 10000) :
    Tri Try.prog 16 #[v] R [] (fun v__ post__ => v__ = (vB (!(vLast L).gone)) ∧ post__ = []) := by
 refine Tri.into (n := 16) (al := [v]) Try.func16 rfl Try.ntmps16 rfl rfl fun w F H => ?_
 refine C_seq (fun K1_ hK1_ => C_reg ?_)
 refine sv (v := (vB false)) (x_assign rfl) ?_
 refine wpList_nil (X_then (hK1_ _ _ ?_))
 clear hK1_
 refine C_seq (fun K2_ hK2_ => C_reg ?_)
 refine sv (v := v) (x_move rfl) ?_
 refine sv (v := (vI .i64 ((List.length L) : Int))) (x_lenRS rfl hL Try.underlying23) ?_
 refine sv (v := (vB (decide (0 < ((List.length L) : Int))))) (x_bin rfl rfl rfl) ?_
 refine sv (v := (vB (decide (0 < ((List.length L) : Int))))) (x_move rfl) ?_
 rcases Bool.eq_false_or_eq_true (decide (0 < ((List.length L) : Int))) with c3_t | c3_f
 ·have c3_tp : 0 < ((List.length L) : Int) := of_decide_eq_true c3_t
  refine S_yes (j := 3) (dj := 6) (b := true) rfl rfl (congrArg vB c3_t) (T_val (v := v) (x_move rfl) ?_)
  refine S_yes (j := 3) (dj := 6) (b := true) rfl rfl (congrArg vB c3_t) (T_val (v := v) (x_move rfl) ?_)
  refine S_yes (j := 3) (dj := 6) (b := true) rfl rfl (congrArg vB c3_t) (T_val (v := (vI .i64 ((List.length L) : Int))) (x_lenRS rfl hL Try.underlying23) ?_)
  refine S_yes (j := 3) (dj := 6) (b := true) rfl rfl (congrArg vB c3_t) (T_val (v := (vI .i64 (((List.length L) : Int) - 1))) (x_bin rfl rfl (ib_sub (IntWalk.i64_in _ (by omega)))) ?_)
  obtain ⟨x4_, hx5_, hm6_⟩ := elem_at L ((((List.length L) : Int) - 1).toNat) (by omega)
  have hvl_ := vLast_at hx5_ (by omega)
  refine S_yes (j := 3) (dj := 6) (b := true) rfl rfl (congrArg vB c3_t) (T_val (v := (vP (some ⟨(sb v), so v + (((((List.length L) : Int) - 1).toNat) * 6 + 0), none⟩))) (x_idxRS (v := v) rfl hL rfl Try.underlying23 z66 (by omega) (by omega) (by omega : _ = (((List.length L) : Int) - 1).toNat) rfl) ?_)
  refine S_yes (j := 3) (dj := 6) (b := true) rfl rfl (congrArg vB c3_t) (T_val (v := (vP (some ⟨(sb v), so v + (((((List.length L) : Int) - 1).toNat) * 6 + 5), none⟩))) (by kernel_rfl) ?_)
  refine S_yes (j := 3) (dj := 6) (b := true) rfl rfl (congrArg vB c3_t) (T_val (v := (vB x4_.gone)) (x_load1 rfl Try.underlying4 rfl (RC.cell (RS.rc hL) (Holds.ro_at H 0 rfl) (j := ((((List.length L) : Int) - 1).toNat) * 6 + 5) (u := (vB x4_.gone)) (fm_cell VR.len hx5_ (i := 5) rfl))) ?_)
  refine S_yes (j := 3) (dj := 6) (b := true) rfl rfl (congrArg vB c3_t) (T_val (v := (vB (!x4_.gone))) (x_not rfl) ?_)
  refine S_list (T_pickT (v := (vB (!x4_.gone))) (congrArg vB c3_t) rfl ?_)
  refine sv (v := (vB (!x4_.gone))) (x_assign rfl) ?_
  refine wpList_nil (X_then (hK2_ _ _ ?_))
  clear hK2_
  refine C_ret ?_
  refine R_any (v := (vB (!x4_.gone))) (run_results1 rfl rfl) ?_
  exact ⟨_, _, rfl, ⟨(congrArg vB ((by first | rfl | (simp_all [vNone]; done) | (rw [vLast_nil' (by simp_all)]; rfl) | (simp [hvl_]; done)) : (!x4_.gone) = (!(vLast L).gone))), rfl⟩, (Same.refl w), H⟩
 ·have c3_fp : ¬ (0 < ((List.length L) : Int)) := of_decide_eq_false c3_f
  refine S_no (j := 3) (dj := 6) (b := false) rfl rfl (congrArg vB c3_f) (by decide) ?_
  refine S_no (j := 3) (dj := 6) (b := false) rfl rfl (congrArg vB c3_f) (by decide) ?_
  refine S_no (j := 3) (dj := 6) (b := false) rfl rfl (congrArg vB c3_f) (by decide) ?_
  refine S_no (j := 3) (dj := 6) (b := false) rfl rfl (congrArg vB c3_f) (by decide) ?_
  refine S_no (j := 3) (dj := 6) (b := false) rfl rfl (congrArg vB c3_f) (by decide) ?_
  refine S_no (j := 3) (dj := 6) (b := false) rfl rfl (congrArg vB c3_f) (by decide) ?_
  refine S_no (j := 3) (dj := 6) (b := false) rfl rfl (congrArg vB c3_f) (by decide) ?_
  refine S_no (j := 3) (dj := 6) (b := false) rfl rfl (congrArg vB c3_f) (by decide) ?_
  refine S_list (T_pickF (v := (vB false)) (congrArg vB c3_f) rfl ?_)
  refine sv (v := (vB false)) (x_assign rfl) ?_
  refine wpList_nil (X_then (hK2_ _ _ ?_))
  clear hK2_
  refine C_ret ?_
  refine R_any (v := (vB false)) (run_results1 rfl rfl) ?_
  exact ⟨_, _, rfl, ⟨(congrArg vB ((by first | rfl | (simp_all [vNone]; done) | (rw [vLast_nil' (by simp_all)]; rfl) | (simp [hvl_]; done)) : false = (!(vLast L).gone))), rfl⟩, (Same.refl w), H⟩

set_option maxHeartbeats 1600000 in
theorem kLess (R : HP) (a b c d : Int) :
    Tri Try.prog 26 #[(vA #[(vI .i64 a), (vI .i64 b)]), (vA #[(vI .i64 c), (vI .i64 d)])] R [] (fun v__ post__ => v__ = (vB (vLessB a b c d)) ∧ post__ = []) := by
 refine Tri.into (n := 24) (al := [(vA #[(vI .i64 a), (vI .i64 b)]), (vA #[(vI .i64 c), (vI .i64 d)])]) Try.func26 rfl Try.ntmps26 rfl rfl fun w F H => ?_
 refine C_seq (fun K1_ hK1_ => C_reg ?_)
 refine S_list (T_box (v := (vA #[(vI .i64 a), (vI .i64 b)])) rfl H ?_)
 intro b2_ w3_ S5_ H4_
 have S6_ := Same.trans (Same.refl w) S5_
 refine S_list (T_box (v := (vA #[(vI .i64 c), (vI .i64 d)])) rfl H4_ ?_)
 intro b7_ w8_ S10_ H9_
 have S11_ := Same.trans S6_ S10_
 refine sv (v := (vB false)) (x_assign rfl) ?_
 refine wpList_nil (X_then (hK1_ _ _ ?_))
 clear hK1_
 refine C_seq (fun K12_ hK12_ => C_reg ?_)
 refine sv (v := (vP (some ⟨b2_, 0, none⟩))) (by kernel_rfl) ?_
 refine sv (v := (vI .i64 a)) (x_load1 rfl Try.underlying2 rfl ((Holds.rd H9_ 1 rfl) 0 (vI .i64 a) rfl)) ?_
 refine sv (v := (vP (some ⟨b7_, 0, none⟩))) (by kernel_rfl) ?_
 refine sv (v := (vI .i64 c)) (x_load1 rfl Try.underlying2 rfl ((Holds.rd H9_ 0 rfl) 0 (vI .i64 c) rfl)) ?_
 refine sv (v := (vB (decide (a < c)))) (x_bin rfl rfl rfl) ?_
 refine sv (v := (vB (decide (a < c)))) (x_move rfl) ?_
 rcases Bool.eq_false_or_eq_true (decide (a < c)) with c13_t | c13_f
 ·have c13_tp : a < c := of_decide_eq_true c13_t
  refine S_no (j := 5) (dj := 10) (b := true) rfl rfl (congrArg vB c13_t) (by decide) ?_
  refine S_no (j := 5) (dj := 10) (b := true) rfl rfl (congrArg vB c13_t) (by decide) ?_
  refine S_no (j := 5) (dj := 10) (b := true) rfl rfl (congrArg vB c13_t) (by decide) ?_
  refine S_no (j := 5) (dj := 10) (b := true) rfl rfl (congrArg vB c13_t) (by decide) ?_
  refine S_no (j := 5) (dj := 10) (b := true) rfl rfl (congrArg vB c13_t) (by decide) ?_
  refine S_no (j := 5) (dj := 10) (b := true) rfl rfl (congrArg vB c13_t) (by decide) ?_
  refine S_noU (j := 11) (dj := 16) rfl rfl rfl ?_
  refine S_noU (j := 11) (dj := 16) rfl rfl rfl ?_
  refine S_noU (j := 11) (dj := 16) rfl rfl rfl ?_
  refine S_noU (j := 11) (dj := 16) rfl rfl rfl ?_
  refine S_noU (j := 11) (dj := 16) rfl rfl rfl ?_
  refine S_no (j := 5) (dj := 10) (b := true) rfl rfl (congrArg vB c13_t) (by decide) ?_
  refine S_list (T_pickT (v := (vB true)) (congrArg vB c13_t) rfl ?_)
  refine sv (v := (vB true)) (x_assign rfl) ?_
  refine wpList_nil (X_then (hK12_ _ _ ?_))
  clear hK12_
  refine C_ret ?_
  refine R_any (v := (vB true)) (run_results1 rfl rfl) ?_
  have H14_ : Holds w8_ (ro R :: F) := (Holds.pkF H9_ [2] 2 :)
  exact ⟨_, _, rfl, ⟨(congrArg vB ((by unfold vLessB; simp_all; try omega) : true = (vLessB a b c d))), rfl⟩, S11_, H14_⟩
 ·have c13_fp : ¬ (a < c) := of_decide_eq_false c13_f
  refine S_yes (j := 5) (dj := 10) (b := false) rfl rfl (congrArg vB c13_f) (T_val (v := (vP (some ⟨b2_, 0, none⟩))) (by kernel_rfl) ?_)
  refine S_yes (j := 5) (dj := 10) (b := false) rfl rfl (congrArg vB c13_f) (T_val (v := (vI .i64 a)) (x_load1 rfl Try.underlying2 rfl ((Holds.rd H9_ 1 rfl) 0 (vI .i64 a) rfl)) ?_)
  refine S_yes (j := 5) (dj := 10) (b := false) rfl rfl (congrArg vB c13_f) (T_val (v := (vP (some ⟨b7_, 0, none⟩))) (by kernel_rfl) ?_)
  refine S_yes (j := 5) (dj := 10) (b := false) rfl rfl (congrArg vB c13_f) (T_val (v := (vI .i64 c)) (x_load1 rfl Try.underlying2 rfl ((Holds.rd H9_ 0 rfl) 0 (vI .i64 c) rfl)) ?_)
  refine S_yes (j := 5) (dj := 10) (b := false) rfl rfl (congrArg vB c13_f) (T_val (v := (vB (decide (a = c)))) (x_bin rfl rfl rfl) ?_)
  refine S_yes (j := 5) (dj := 10) (b := false) rfl rfl (congrArg vB c13_f) (T_val (v := (vB (decide (a = c)))) (x_move rfl) ?_)
  rcases Bool.eq_false_or_eq_true (decide (a = c)) with c15_t | c15_f
  ·have c15_tp : a = c := of_decide_eq_true c15_t
   refine S_yes (j := 11) (dj := 16) (b := true) rfl rfl (congrArg vB c15_t) (T_val (v := (vP (some ⟨b2_, 1, none⟩))) (by kernel_rfl) ?_)
   refine S_yes (j := 11) (dj := 16) (b := true) rfl rfl (congrArg vB c15_t) (T_val (v := (vI .i64 b)) (x_load1 rfl Try.underlying2 rfl ((Holds.rd H9_ 1 rfl) 1 (vI .i64 b) rfl)) ?_)
   refine S_yes (j := 11) (dj := 16) (b := true) rfl rfl (congrArg vB c15_t) (T_val (v := (vP (some ⟨b7_, 1, none⟩))) (by kernel_rfl) ?_)
   refine S_yes (j := 11) (dj := 16) (b := true) rfl rfl (congrArg vB c15_t) (T_val (v := (vI .i64 d)) (x_load1 rfl Try.underlying2 rfl ((Holds.rd H9_ 0 rfl) 1 (vI .i64 d) rfl)) ?_)
   refine S_yes (j := 11) (dj := 16) (b := true) rfl rfl (congrArg vB c15_t) (T_val (v := (vB (decide (b < d)))) (x_bin rfl rfl rfl) ?_)
   refine S_yes (j := 5) (dj := 10) (b := false) rfl rfl (congrArg vB c13_f) (T_pickT (v := (vB (decide (b < d)))) (congrArg vB c15_t) rfl ?_)
   refine S_list (T_pickF (v := (vB (decide (b < d)))) (congrArg vB c13_f) rfl ?_)
   refine sv (v := (vB (decide (b < d)))) (x_assign rfl) ?_
   refine wpList_nil (X_then (hK12_ _ _ ?_))
   clear hK12_
   refine C_ret ?_
   refine R_any (v := (vB (decide (b < d)))) (run_results1 rfl rfl) ?_
   have H16_ : Holds w8_ (ro R :: F) := (Holds.pkF H9_ [2] 2 :)
   exact ⟨_, _, rfl, ⟨(congrArg vB ((by unfold vLessB; simp_all; try omega) : (decide (b < d)) = (vLessB a b c d))), rfl⟩, S11_, H16_⟩
  ·have c15_fp : ¬ (a = c) := of_decide_eq_false c15_f
   refine S_no (j := 11) (dj := 16) (b := false) rfl rfl (congrArg vB c15_f) (by decide) ?_
   refine S_no (j := 11) (dj := 16) (b := false) rfl rfl (congrArg vB c15_f) (by decide) ?_
   refine S_no (j := 11) (dj := 16) (b := false) rfl rfl (congrArg vB c15_f) (by decide) ?_
   refine S_no (j := 11) (dj := 16) (b := false) rfl rfl (congrArg vB c15_f) (by decide) ?_
   refine S_no (j := 11) (dj := 16) (b := false) rfl rfl (congrArg vB c15_f) (by decide) ?_
   refine S_yes (j := 5) (dj := 10) (b := false) rfl rfl (congrArg vB c13_f) (T_pickF (v := (vB false)) (congrArg vB c15_f) rfl ?_)
   refine S_list (T_pickF (v := (vB false)) (congrArg vB c13_f) rfl ?_)
   refine sv (v := (vB false)) (x_assign rfl) ?_
   refine wpList_nil (X_then (hK12_ _ _ ?_))
   clear hK12_
   refine C_ret ?_
   refine R_any (v := (vB false)) (run_results1 rfl rfl) ?_
   have H17_ : Holds w8_ (ro R :: F) := (Holds.pkF H9_ [2] 2 :)
   exact ⟨_, _, rfl, ⟨(congrArg vB ((by unfold vLessB; simp_all; try omega) : false = (vLessB a b c d))), rfl⟩, S11_, H17_⟩
end Go.Proofs.Ytiblemgccgbhoaa
set_option linter.unusedVariables false
set_option linter.unusedSimpArgs false
namespace Go.Proofs.Ytiblemgccgbhoaa
open Go Go.RowKit Gw
open Go.Value renaming int → vI, bool → vB, slice → vS, pointer → vP, agg → vA, tuple → vT

theorem ones_VR (L : List VR) : ∀ u ∈ L.flatMap VR.cells, u.oneCell' = true := by
  intro u hu
  obtain ⟨x, hx, h⟩ := List.mem_flatMap.1 hu
  simp only [VR.cells, List.mem_cons, List.not_mem_nil, or_false] at h
  rcases h with rfl | rfl | rfl | rfl | rfl | rfl <;> rfl
theorem ones_RV (L : List RV) : ∀ u ∈ L.flatMap RV.cells, u.oneCell' = true := by
  intro u hu
  obtain ⟨x, hx, h⟩ := List.mem_flatMap.1 hu
  simp only [RV.cells, List.mem_cons, List.not_mem_nil, or_false] at h
  rcases h with rfl | rfl <;> rfl

set_option maxHeartbeats 1600000 in
theorem kWritten (R : HP) (v : Value) (L : List VR) (m s : Int) (hL : RS R 6 v (List.length L) (L.flatMap VR.cells)) (hl : L.length ≤ 10000) (hv : ∀ x ∈ L, 0 ≤ x.ver ∧ x.ver ≤ 10000) :
    Tri Try.prog 27 #[v, (vA #[(vI .i64 m), (vI .i64 s)])] R [] (fun v__ post__ => ∃ (v' : Value), v__ = v' ∧ post__ = [sl 66 6 v' (List.length (L ++ [vPut L m s])) ((L ++ [vPut L m s]).flatMap VR.cells)]) := by
 refine Tri.into (n := 34) (al := [v, (vA #[(vI .i64 m), (vI .i64 s)])]) Try.func27 rfl Try.ntmps27 rfl rfl fun w F H => ?_
 refine C_seq (fun K1_ hK1_ => C_reg ?_)
 refine S_list (T_box (v := (vA #[(vI .i64 m), (vI .i64 s)])) rfl H ?_)
 intro b2_ w3_ S5_ H4_
 have S6_ := Same.trans (Same.refl w) S5_
 refine sv (v := (vS none 0 0)) (x_assign rfl) ?_
 refine wpList_nil (X_then (hK1_ _ _ ?_))
 clear hK1_
 refine C_seq (fun K7_ hK7_ => C_reg ?_)
 refine sv (v := (vA #[(vI .i64 m), (vI .i64 s)])) (x_loadN (vs := [(vI .i64 m), (vI .i64 s)]) rfl Try.underlying31 rfl z31 rfl (Rd.cells (Holds.rd H4_ 0 rfl) 0 rfl)) ?_
 refine sv (v := (vA #[(vI .i64 m), (vI .i64 s)])) (x_loadN (vs := [(vI .i64 m), (vI .i64 s)]) rfl Try.underlying31 rfl z31 rfl (Rd.cells (Holds.rd H4_ 0 rfl) 0 rfl)) ?_
 refine sv (v := (vA #[(vI .i64 m), (vI .i64 s), (vI .i64 m), (vI .i64 s), (vI .i64 1), (vB false)])) (by kernel_rfl) ?_
 refine S_list (T_alloc z66 H4_ ?_)
 intro b8_ w9_ S11_ H10_
 have S12_ := Same.trans S6_ S11_
 refine S_list0 (T_storeN (vs := [(vI .i64 m), (vI .i64 s), (vI .i64 m), (vI .i64 s), (vI .i64 1), (vB false)]) rfl rfl z66 rfl (by simp [Value.oneCell']) H10_ 0 rfl (Nat.le_of_ble_eq_true (by rfl)) ?_)
 intro w13_ S15_ H14_
 have S16_ := Same.trans S12_ S15_
 refine wpList_nil (X_then (hK7_ _ _ ?_))
 clear hK7_
 refine C_seq (fun K17_ hK17_ => ?_)
 refine C_seq (fun K18_ hK18_ => C_reg ?_)
 refine sv (v := v) (x_move rfl) ?_
 have H20_ := ((Holds.bring H14_ 2 rfl) :)
 refine S_list (T_call (al := [v]) (pre := []) rfl rfl cb16 (kLives R v L (RS.set_ hL (by first | rfl | (simp_all [VR.cells, vPut, vEnd, VR.rv, RV.cells]; done) | (simp [VR.cells, vPut, vEnd, VR.rv, RV.cells]; done) | (simp; omega) | omega) (by first | rfl | (simp_all [VR.cells, vPut, vEnd, VR.rv, RV.cells]; done) | (simp [VR.cells, vPut, vEnd, VR.rv, RV.cells]; done) | (simp; omega) | omega)) (by first | assumption | omega)) H20_ ?_)
 rintro v19_ p24_ w21_ ⟨rfl, rfl⟩ S23_ H22_
 have S25_ := Same.trans S16_ S23_
 refine wpList_nil (X_then (hK18_ _ _ ?_))
 clear hK18_
 refine C_cond (b := !(vLast L).gone) rfl (fun c26_t => ?_) (fun c26_f => ?_)
 ·skip
  have h0_ := vLast_pos c26_t
  refine A_start (S := fun w => Sub R (hp w)) (N := 19) foll rfl rfl ?_
  have H27_ := Holds.drew_ H22_
  have hq28_ := ((Holds.ro_at H27_ 0 rfl))
  refine A_tk 0 (v := v) rfl (by kernel_rfl) (fun w hS => x_move rfl) hq28_ ?_
  refine A_tk 1 (v := v) rfl (by kernel_rfl) (fun w hS => x_move rfl) hq28_ ?_
  refine A_tk 2 (v := (vI .i64 ((List.length L) : Int))) rfl (by kernel_rfl) (fun w hS => x_lenRS rfl hL Try.underlying23) hq28_ ?_
  refine A_tk 3 (v := (vI .i64 (((List.length L) : Int) - 1))) rfl (by kernel_rfl) (fun w hS => x_bin rfl rfl (ib_sub (IntWalk.i64_in _ (by omega)))) hq28_ ?_
  obtain ⟨x29_, hx30_, hm31_⟩ := elem_at L ((((List.length L) : Int) - 1).toNat) (by omega)
  have hp32_ := hv x29_ hm31_
  have hvl_ := vLast_at hx30_ (by omega)
  refine A_tk 4 (v := (vP (some ⟨(sb v), so v + (((((List.length L) : Int) - 1).toNat) * 6 + 0), none⟩))) rfl (by kernel_rfl) (fun w hS => x_idxRS (v := v) rfl hL rfl Try.underlying23 z66 (by omega) (by omega) (by omega : _ = (((List.length L) : Int) - 1).toNat) rfl) hq28_ ?_
  refine A_tk 5 (v := (vP (some ⟨(sb v), so v + (((((List.length L) : Int) - 1).toNat) * 6 + 2), none⟩))) rfl (by kernel_rfl) (fun w hS => by kernel_rfl) hq28_ ?_
  refine A_tk 6 (v := (vA #[(vI .i64 x29_.created_Main), (vI .i64 x29_.created_Sub)])) rfl (by kernel_rfl) (fun w hS => x_loadN (vs := [(vI .i64 x29_.created_Main), (vI .i64 x29_.created_Sub)]) rfl Try.underlying31 rfl z31 rfl (RC.cells (RS.rc hL) hS (((((List.length L) : Int) - 1).toNat) * 6 + 2) (fm_cells VR.len hx30_ (i := 2) rfl))) hq28_ ?_
  refine A_tk 7 (v := v) rfl (by kernel_rfl) (fun w hS => x_move rfl) hq28_ ?_
  refine A_tk 8 (v := v) rfl (by kernel_rfl) (fun w hS => x_move rfl) hq28_ ?_
  refine A_tk 9 (v := (vI .i64 ((List.length L) : Int))) rfl (by kernel_rfl) (fun w hS => x_lenRS rfl hL Try.underlying23) hq28_ ?_
  refine A_tk 10 (v := (vI .i64 (((List.length L) : Int) - 1))) rfl (by kernel_rfl) (fun w hS => x_bin rfl rfl (ib_sub (IntWalk.i64_in _ (by omega)))) hq28_ ?_
  refine A_tk 11 (v := (vP (some ⟨(sb v), so v + (((((List.length L) : Int) - 1).toNat) * 6 + 0), none⟩))) rfl (by kernel_rfl) (fun w hS => x_idxRS (v := v) rfl hL rfl Try.underlying23 z66 (by omega) (by omega) (by omega : _ = (((List.length L) : Int) - 1).toNat) rfl) hq28_ ?_
  refine A_tk 12 (v := (vP (some ⟨(sb v), so v + (((((List.length L) : Int) - 1).toNat) * 6 + 4), none⟩))) rfl (by kernel_rfl) (fun w hS => by kernel_rfl) hq28_ ?_
  refine A_tk 13 (v := (vI .i64 x29_.ver)) rfl (by kernel_rfl) (fun w hS => x_load1 rfl Try.underlying2 rfl (RC.cell (RS.rc hL) hS (j := ((((List.length L) : Int) - 1).toNat) * 6 + 4) (u := (vI .i64 x29_.ver)) (fm_cell VR.len hx30_ (i := 4) rfl))) hq28_ ?_
  refine A_tk 14 (v := (vI .i64 (x29_.ver + 1))) rfl (by kernel_rfl) (fun w hS => x_bin rfl rfl (ib_add (IntWalk.i64_in _ (by omega)))) hq28_ ?_
  refine A_tk 15 (v := (vP (some ⟨b8_, 2, none⟩))) rfl (by kernel_rfl) (fun w hS => by kernel_rfl) hq28_ ?_
  refine A_ready (i := 16) (rs := []) (by kernel_rfl) ?_
  refine AllR.cons ?_ AllR.nil
  refine A_op0 (ls' := #[true, true, true, true, true, true, true, true, true, true, true, true, true, true, true, true, true, false, false]) rfl (by kernel_rfl) (T_storeN (vs := [(vI .i64 x29_.created_Main), (vI .i64 x29_.created_Sub)]) rfl rfl z31 rfl (by simp [Value.oneCell']) H27_ 1 rfl (Nat.le_of_ble_eq_true (by rfl)) ?_)
  intro w33_ S35_ H34_
  have S36_ := Same.trans (Same.trans S25_ (Same.drew _)) S35_
  refine ⟨((Holds.ro_at H34_ 0 rfl)), ?_⟩
  have hq37_ := ((Holds.ro_at H34_ 0 rfl))
  refine A_tk 17 (v := (vP (some ⟨b8_, 4, none⟩))) rfl (by kernel_rfl) (fun w hS => by kernel_rfl) hq37_ ?_
  refine A_ready (i := 18) (rs := []) (by kernel_rfl) ?_
  refine AllR.cons ?_ AllR.nil
  refine A_op0 (ls' := #[true, true, true, true, true, true, true, true, true, true, true, true, true, true, true, true, true, true, true]) rfl (by kernel_rfl) (T_store1 (v := (vI .i64 (x29_.ver + 1))) rfl rfl z2 rfl H34_ 1 rfl (Nat.le_of_ble_eq_true (by rfl)) ?_)
  intro w38_ S40_ H39_
  have S41_ := Same.trans S36_ S40_
  refine ⟨((Holds.ro_at H39_ 0 rfl)), ?_⟩
  refine A_done (by kernel_rfl) ?_
  refine (X_then (hK17_ _ _ ?_))
  clear hK17_
  refine C_seq (fun K42_ hK42_ => ?_)
  refine A_start (S := fun w => Rd b8_ [(vI .i64 m), (vI .i64 s), (vI .i64 x29_.created_Main), (vI .i64 x29_.created_Sub), (vI .i64 (x29_.ver + 1)), (vB false)] w ∧ Sub R (hp w)) (N := 7) foll rfl rfl ?_
  have H43_ := Holds.drew_ H39_
  have hq44_ := And.intro (Holds.rd H43_ 1 rfl) ((Holds.ro_at H43_ 0 rfl))
  refine A_tk 1 (v := v) rfl (by kernel_rfl) (fun w hS => x_move rfl) hq44_ ?_
  refine A_tk 3 (v := (vA #[(vI .i64 m), (vI .i64 s), (vI .i64 x29_.created_Main), (vI .i64 x29_.created_Sub), (vI .i64 (x29_.ver + 1)), (vB false)])) rfl (by kernel_rfl) (fun w hS => x_loadN (vs := [(vI .i64 m), (vI .i64 s), (vI .i64 x29_.created_Main), (vI .i64 x29_.created_Sub), (vI .i64 (x29_.ver + 1)), (vB false)]) rfl Try.underlying66 rfl z66 rfl (Rd.cells hS.1 0 rfl)) hq44_ ?_
  refine A_ready (i := 0) (rs := [4]) (by kernel_rfl) ?_
  refine AllR.cons ?_ ?_
  ·skip
   refine A_op (ls' := #[true, true, false, true, false, false, false]) rfl (by kernel_rfl) (T_new (obj := .cells #[] 66) (f := fun b__ => .slice (some ⟨b__, 0, none⟩) 0 0) (A := fun b__ => cl b__ 66 []) (by kernel_rfl) (fun l h => h.alloc _ _) H43_ ?_)
   intro b45_ w46_ S48_ H47_
   have S49_ := Same.trans (Same.trans S41_ (Same.drew _)) S48_
   refine ⟨⟨Holds.rd H47_ 2 rfl, (Holds.ro_at H47_ 1 rfl)⟩, ?_⟩
   refine A_ready (i := 2) (rs := [4]) (by kernel_rfl) ?_
   refine AllR.cons ?_ ?_
   ·skip
    have H50_ : Holds w46_ (cl b45_ 66 ([] ++ [] ++ []) :: ro R :: cl b8_ 66 [(vI .i64 m), (vI .i64 s), (vI .i64 x29_.created_Main), (vI .i64 x29_.created_Sub), (vI .i64 (x29_.ver + 1)), (vB false)] :: cl b2_ 31 [(vI .i64 m), (vI .i64 s)] :: F) := cast1 (P := fun (c__ : List Value) => Holds w46_ (cl b45_ 66 c__ :: ro R :: cl b8_ 66 [(vI .i64 m), (vI .i64 s), (vI .i64 x29_.created_Main), (vI .i64 x29_.created_Sub), (vI .i64 (x29_.ver + 1)), (vB false)] :: cl b2_ 31 [(vI .i64 m), (vI .i64 s)] :: F)) (by kernel_rfl : [] = [] ++ [] ++ []) H47_
    have H51_ : Holds w46_ (sl 66 6 (vS (some ⟨b45_, 0, none⟩) 0 0) 0 [] :: ro R :: cl b8_ 66 [(vI .i64 m), (vI .i64 s), (vI .i64 x29_.created_Main), (vI .i64 x29_.created_Sub), (vI .i64 (x29_.ver + 1)), (vB false)] :: cl b2_ 31 [(vI .i64 m), (vI .i64 s)] :: F) := Holds.to_sl H50_ 0 [] [] (xs := []) (m := 0) (cap := 0) (sz := 6) rfl (by kernel_rfl) (by kernel_rfl) (by omega)
    refine A_op (ls' := #[true, true, true, true, false, false, false]) rfl (by kernel_rfl) (T_append rfl rfl Try.underlying23 z66 rfl (by decide) H51_ 0 rfl (RS.src hL (Holds.ro_at H51_ 1 rfl) Try.underlying23 (ones_VR _)) (by first | omega | (simp only [List.length_append, List.length_cons, List.length_nil]; omega)) ?_)
    intro v52_ w53_ S55_ H54_
    have S56_ := Same.trans S49_ S55_
    refine ⟨⟨Holds.rd H54_ 2 rfl, (Holds.ro_at H54_ 1 rfl)⟩, ?_⟩
    refine A_ready (i := 4) (rs := []) (by kernel_rfl) ?_
    refine AllR.cons ?_ AllR.nil
    refine A_op (ls' := #[true, true, true, true, true, false, false]) rfl (by kernel_rfl) (T_new (obj := .cells #[(vI .i64 m), (vI .i64 s), (vI .i64 x29_.created_Main), (vI .i64 x29_.created_Sub), (vI .i64 (x29_.ver + 1)), (vB false)] 66) (f := fun b__ => .slice (some ⟨b__, 0, none⟩) 1 1) (A := fun b__ => cl b__ 66 [(vI .i64 m), (vI .i64 s), (vI .i64 x29_.created_Main), (vI .i64 x29_.created_Sub), (vI .i64 (x29_.ver + 1)), (vB false)]) (by kernel_rfl) (fun l h => h.alloc _ _) H54_ ?_)
    intro b57_ w58_ S60_ H59_
    have S61_ := Same.trans S56_ S60_
    refine ⟨⟨Holds.rd H59_ 3 rfl, (Holds.ro_at H59_ 2 rfl)⟩, ?_⟩
    refine A_ready (i := 5) (rs := []) (by kernel_rfl) ?_
    refine AllR.cons ?_ AllR.nil
    refine A_op (ls' := #[true, true, true, true, true, true, false]) rfl (by kernel_rfl) (T_append rfl rfl Try.underlying23 z66 rfl (by decide) H59_ 1 rfl (Holds.cl_src H59_ 0 rfl Try.underlying23 (by simp [Value.oneCell']) rfl) (by first | omega | (simp only [List.length_append, List.length_cons, List.length_nil]; omega)) ?_)
    intro v62_ w63_ S65_ H64_
    have S66_ := Same.trans S61_ S65_
    refine ⟨⟨Holds.rd H64_ 3 rfl, (Holds.ro_at H64_ 2 rfl)⟩, ?_⟩
    have hq67_ := And.intro (Holds.rd H64_ 3 rfl) ((Holds.ro_at H64_ 2 rfl))
    refine A_tk 6 (v := v62_) rfl (by kernel_rfl) (fun w hS => x_assign rfl) hq67_ ?_
    refine A_done (by kernel_rfl) ?_
    refine (X_then (hK42_ _ _ ?_))
    clear hK42_
    refine C_ret ?_
    refine R_any (v := v62_) (run_results1 rfl rfl) ?_
    have H68_ := Holds.resl H64_ 1 rfl ((by first | rfl | (simp_all [VR.cells, vPut, vEnd, VR.rv, RV.cells]; done) | (simp [VR.cells, vPut, vEnd, VR.rv, RV.cells]; done) | (simp; omega) | omega) : ([] ++ (L.flatMap VR.cells)) ++ [(vI .i64 m), (vI .i64 s), (vI .i64 x29_.created_Main), (vI .i64 x29_.created_Sub), (vI .i64 (x29_.ver + 1)), (vB false)] = (L ++ [vPut L m s]).flatMap VR.cells) ((by first | rfl | (simp_all [VR.cells, vPut, vEnd, VR.rv, RV.cells]; done) | (simp [VR.cells, vPut, vEnd, VR.rv, RV.cells]; done) | (simp; omega) | omega) : 0 + (List.length L) + 1 = (List.length (L ++ [vPut L m s])))
    have H69_ : Holds w63_ (ro R :: sl 66 6 v62_ (List.length (L ++ [vPut L m s])) ((L ++ [vPut L m s]).flatMap VR.cells) :: F) := (Holds.pkF H68_ [2, 1] 3 :)
    exact ⟨_, _, rfl, ⟨v62_, rfl, rfl⟩, S66_, H69_⟩
   refine AllR.cons ?_ AllR.nil
   refine A_op (ls' := #[true, true, false, true, true, false, false]) rfl (by kernel_rfl) (T_new (obj := .cells #[(vI .i64 m), (vI .i64 s), (vI .i64 x29_.created_Main), (vI .i64 x29_.created_Sub), (vI .i64 (x29_.ver + 1)), (vB false)] 66) (f := fun b__ => .slice (some ⟨b__, 0, none⟩) 1 1) (A := fun b__ => cl b__ 66 [(vI .i64 m), (vI .i64 s), (vI .i64 x29_.created_Main), (vI .i64 x29_.created_Sub), (vI .i64 (x29_.ver + 1)), (vB false)]) (by kernel_rfl) (fun l h => h.alloc _ _) H47_ ?_)
   intro b70_ w71_ S73_ H72_
   have S74_ := Same.trans S49_ S73_
   refine ⟨⟨Holds.rd H72_ 3 rfl, (Holds.ro_at H72_ 2 rfl)⟩, ?_⟩
   refine A_ready (i := 2) (rs := []) (by kernel_rfl) ?_
   refine AllR.cons ?_ AllR.nil
   have H75_ : Holds w71_ (cl b70_ 66 [(vI .i64 m), (vI .i64 s), (vI .i64 x29_.created_Main), (vI .i64 x29_.created_Sub), (vI .i64 (x29_.ver + 1)), (vB false)] :: cl b45_ 66 ([] ++ [] ++ []) :: ro R :: cl b8_ 66 [(vI .i64 m), (vI .i64 s), (vI .i64 x29_.created_Main), (vI .i64 x29_.created_Sub), (vI .i64 (x29_.ver + 1)), (vB false)] :: cl b2_ 31 [(vI .i64 m), (vI .i64 s)] :: F) := cast1 (P := fun (c__ : List Value) => Holds w71_ (cl b70_ 66 [(vI .i64 m), (vI .i64 s), (vI .i64 x29_.created_Main), (vI .i64 x29_.created_Sub), (vI .i64 (x29_.ver + 1)), (vB false)] :: cl b45_ 66 c__ :: ro R :: cl b8_ 66 [(vI .i64 m), (vI .i64 s), (vI .i64 x29_.created_Main), (vI .i64 x29_.created_Sub), (vI .i64 (x29_.ver + 1)), (vB false)] :: cl b2_ 31 [(vI .i64 m), (vI .i64 s)] :: F)) (by kernel_rfl : [] = [] ++ [] ++ []) H72_
   have H76_ : Holds w71_ (cl b70_ 66 [(vI .i64 m), (vI .i64 s), (vI .i64 x29_.created_Main), (vI .i64 x29_.created_Sub), (vI .i64 (x29_.ver + 1)), (vB false)] :: sl 66 6 (vS (some ⟨b45_, 0, none⟩) 0 0) 0 [] :: ro R :: cl b8_ 66 [(vI .i64 m), (vI .i64 s), (vI .i64 x29_.created_Main), (vI .i64 x29_.created_Sub), (vI .i64 (x29_.ver + 1)), (vB false)] :: cl b2_ 31 [(vI .i64 m), (vI .i64 s)] :: F) := Holds.to_sl H75_ 1 [] [] (xs := []) (m := 0) (cap := 0) (sz := 6) rfl (by kernel_rfl) (by kernel_rfl) (by omega)
   refine A_op (ls' := #[true, true, true, true, true, false, false]) rfl (by kernel_rfl) (T_append rfl rfl Try.underlying23 z66 rfl (by decide) H76_ 1 rfl (RS.src hL (Holds.ro_at H76_ 2 rfl) Try.underlying23 (ones_VR _)) (by first | omega | (simp only [List.length_append, List.length_cons, List.length_nil]; omega)) ?_)
   intro v77_ w78_ S80_ H79_
   have S81_ := Same.trans S74_ S80_
   refine ⟨⟨Holds.rd H79_ 3 rfl, (Holds.ro_at H79_ 2 rfl)⟩, ?_⟩
   refine A_ready (i := 5) (rs := []) (by kernel_rfl) ?_
   refine AllR.cons ?_ AllR.nil
   refine A_op (ls' := #[true, true, true, true, true, true, false]) rfl (by kernel_rfl) (T_append rfl rfl Try.underlying23 z66 rfl (by decide) H79_ 1 rfl (Holds.cl_src H79_ 0 rfl Try.underlying23 (by simp [Value.oneCell']) rfl) (by first | omega | (simp only [List.length_append, List.length_cons, List.length_nil]; omega)) ?_)
   intro v82_ w83_ S85_ H84_
   have S86_ := Same.trans S81_ S85_
   refine ⟨⟨Holds.rd H84_ 3 rfl, (Holds.ro_at H84_ 2 rfl)⟩, ?_⟩
   have hq87_ := And.intro (Holds.rd H84_ 3 rfl) ((Holds.ro_at H84_ 2 rfl))
   refine A_tk 6 (v := v82_) rfl (by kernel_rfl) (fun w hS => x_assign rfl) hq87_ ?_
   refine A_done (by kernel_rfl) ?_
   refine (X_then (hK42_ _ _ ?_))
   clear hK42_
   refine C_ret ?_
   refine R_any (v := v82_) (run_results1 rfl rfl) ?_
   have H88_ := Holds.resl H84_ 1 rfl ((by first | rfl | (simp_all [VR.cells, vPut, vEnd, VR.rv, RV.cells]; done) | (simp [VR.cells, vPut, vEnd, VR.rv, RV.cells]; done) | (simp; omega) | omega) : ([] ++ (L.flatMap VR.cells)) ++ [(vI .i64 m), (vI .i64 s), (vI .i64 x29_.created_Main), (vI .i64 x29_.created_Sub), (vI .i64 (x29_.ver + 1)), (vB false)] = (L ++ [vPut L m s]).flatMap VR.cells) ((by first | rfl | (simp_all [VR.cells, vPut, vEnd, VR.rv, RV.cells]; done) | (simp [VR.cells, vPut, vEnd, VR.rv, RV.cells]; done) | (simp; omega) | omega) : 0 + (List.length L) + 1 = (List.length (L ++ [vPut L m s])))
   have H89_ : Holds w83_ (ro R :: sl 66 6 v82_ (List.length (L ++ [vPut L m s])) ((L ++ [vPut L m s]).flatMap VR.cells) :: F) := (Holds.pkF H88_ [2, 1] 3 :)
   exact ⟨_, _, rfl, ⟨v82_, rfl, rfl⟩, S86_, H89_⟩
  refine AllR.cons ?_ AllR.nil
  refine A_op (ls' := #[false, true, false, true, true, false, false]) rfl (by kernel_rfl) (T_new (obj := .cells #[(vI .i64 m), (vI .i64 s), (vI .i64 x29_.created_Main), (vI .i64 x29_.created_Sub), (vI .i64 (x29_.ver + 1)), (vB false)] 66) (f := fun b__ => .slice (some ⟨b__, 0, none⟩) 1 1) (A := fun b__ => cl b__ 66 [(vI .i64 m), (vI .i64 s), (vI .i64 x29_.created_Main), (vI .i64 x29_.created_Sub), (vI .i64 (x29_.ver + 1)), (vB false)]) (by kernel_rfl) (fun l h => h.alloc _ _) H43_ ?_)
  intro b90_ w91_ S93_ H92_
  have S94_ := Same.trans (Same.trans S41_ (Same.drew _)) S93_
  refine ⟨⟨Holds.rd H92_ 2 rfl, (Holds.ro_at H92_ 1 rfl)⟩, ?_⟩
  refine A_ready (i := 0) (rs := []) (by kernel_rfl) ?_
  refine AllR.cons ?_ AllR.nil
  refine A_op (ls' := #[true, true, false, true, true, false, false]) rfl (by kernel_rfl) (T_new (obj := .cells #[] 66) (f := fun b__ => .slice (some ⟨b__, 0, none⟩) 0 0) (A := fun b__ => cl b__ 66 []) (by kernel_rfl) (fun l h => h.alloc _ _) H92_ ?_)
  intro b95_ w96_ S98_ H97_
  have S99_ := Same.trans S94_ S98_
  refine ⟨⟨Holds.rd H97_ 3 rfl, (Holds.ro_at H97_ 2 rfl)⟩, ?_⟩
  refine A_ready (i := 2) (rs := []) (by kernel_rfl) ?_
  refine AllR.cons ?_ AllR.nil
  have H100_ : Holds w96_ (cl b95_ 66 ([] ++ [] ++ []) :: cl b90_ 66 [(vI .i64 m), (vI .i64 s), (vI .i64 x29_.created_Main), (vI .i64 x29_.created_Sub), (vI .i64 (x29_.ver + 1)), (vB false)] :: ro R :: cl b8_ 66 [(vI .i64 m), (vI .i64 s), (vI .i64 x29_.created_Main), (vI .i64 x29_.created_Sub), (vI .i64 (x29_.ver + 1)), (vB false)] :: cl b2_ 31 [(vI .i64 m), (vI .i64 s)] :: F) := cast1 (P := fun (c__ : List Value) => Holds w96_ (cl b95_ 66 c__ :: cl b90_ 66 [(vI .i64 m), (vI .i64 s), (vI .i64 x29_.created_Main), (vI .i64 x29_.created_Sub), (vI .i64 (x29_.ver + 1)), (vB false)] :: ro R :: cl b8_ 66 [(vI .i64 m), (vI .i64 s), (vI .i64 x29_.created_Main), (vI .i64 x29_.created_Sub), (vI .i64 (x29_.ver + 1)), (vB false)] :: cl b2_ 31 [(vI .i64 m), (vI .i64 s)] :: F)) (by kernel_rfl : [] = [] ++ [] ++ []) H97_
  have H101_ : Holds w96_ (sl 66 6 (vS (some ⟨b95_, 0, none⟩) 0 0) 0 [] :: cl b90_ 66 [(vI .i64 m), (vI .i64 s), (vI .i64 x29_.created_Main), (vI .i64 x29_.created_Sub), (vI .i64 (x29_.ver + 1)), (vB false)] :: ro R :: cl b8_ 66 [(vI .i64 m), (vI .i64 s), (vI .i64 x29_.created_Main), (vI .i64 x29_.created_Sub), (vI .i64 (x29_.ver + 1)), (vB false)] :: cl b2_ 31 [(vI .i64 m), (vI .i64 s)] :: F) := Holds.to_sl H100_ 0 [] [] (xs := []) (m := 0) (cap := 0) (sz := 6) rfl (by kernel_rfl) (by kernel_rfl) (by omega)
  refine A_op (ls' := #[true, true, true, true, true, false, false]) rfl (by kernel_rfl) (T_append rfl rfl Try.underlying23 z66 rfl (by decide) H101_ 0 rfl (RS.src hL (Holds.ro_at H101_ 2 rfl) Try.underlying23 (ones_VR _)) (by first | omega | (simp only [List.length_append, List.length_cons, List.length_nil]; omega)) ?_)
  intro v102_ w103_ S105_ H104_
  have S106_ := Same.trans S99_ S105_
  refine ⟨⟨Holds.rd H104_ 3 rfl, (Holds.ro_at H104_ 2 rfl)⟩, ?_⟩
  refine A_ready (i := 5) (rs := []) (by kernel_rfl) ?_
  refine AllR.cons ?_ AllR.nil
  refine A_op (ls' := #[true, true, true, true, true, true, false]) rfl (by kernel_rfl) (T_append rfl rfl Try.underlying23 z66 rfl (by decide) H104_ 0 rfl (Holds.cl_src H104_ 1 rfl Try.underlying23 (by simp [Value.oneCell']) rfl) (by first | omega | (simp only [List.length_append, List.length_cons, List.length_nil]; omega)) ?_)
  intro v107_ w108_ S110_ H109_
  have S111_ := Same.trans S106_ S110_
  refine ⟨⟨Holds.rd H109_ 3 rfl, (Holds.ro_at H109_ 2 rfl)⟩, ?_⟩
  have hq112_ := And.intro (Holds.rd H109_ 3 rfl) ((Holds.ro_at H109_ 2 rfl))
  refine A_tk 6 (v := v107_) rfl (by kernel_rfl) (fun w hS => x_assign rfl) hq112_ ?_
  refine A_done (by kernel_rfl) ?_
  refine (X_then (hK42_ _ _ ?_))
  clear hK42_
  refine C_ret ?_
  refine R_any (v := v107_) (run_results1 rfl rfl) ?_
  have H113_ := Holds.resl H109_ 0 rfl ((by first | rfl | (simp_all [VR.cells, vPut, vEnd, VR.rv, RV.cells]; done) | (simp [VR.cells, vPut, vEnd, VR.rv, RV.cells]; done) | (simp; omega) | omega) : ([] ++ (L.flatMap VR.cells)) ++ [(vI .i64 m), (vI .i64 s), (vI .i64 x29_.created_Main), (vI .i64 x29_.created_Sub), (vI .i64 (x29_.ver + 1)), (vB false)] = (L ++ [vPut L m s]).flatMap VR.cells) ((by first | rfl | (simp_all [VR.cells, vPut, vEnd, VR.rv, RV.cells]; done) | (simp [VR.cells, vPut, vEnd, VR.rv, RV.cells]; done) | (simp; omega) | omega) : 0 + (List.length L) + 1 = (List.length (L ++ [vPut L m s])))
  have H114_ : Holds w108_ (ro R :: sl 66 6 v107_ (List.length (L ++ [vPut L m s])) ((L ++ [vPut L m s]).flatMap VR.cells) :: F) := (Holds.pkF H113_ [2, 0] 3 :)
  exact ⟨_, _, rfl, ⟨v107_, rfl, rfl⟩, S111_, H114_⟩
 ·skip
  refine C_skip (X_then (hK17_ _ _ ?_))
  clear hK17_
  refine C_seq (fun K115_ hK115_ => ?_)
  refine A_start (S := fun w => Rd b8_ [(vI .i64 m), (vI .i64 s), (vI .i64 m), (vI .i64 s), (vI .i64 1), (vB false)] w ∧ Sub R (hp w)) (N := 7) foll rfl rfl ?_
  have H116_ := Holds.drew_ H22_
  have hq117_ := And.intro (Holds.rd H116_ 1 rfl) ((Holds.ro_at H116_ 0 rfl))
  refine A_tk 1 (v := v) rfl (by kernel_rfl) (fun w hS => x_move rfl) hq117_ ?_
  refine A_tk 3 (v := (vA #[(vI .i64 m), (vI .i64 s), (vI .i64 m), (vI .i64 s), (vI .i64 1), (vB false)])) rfl (by kernel_rfl) (fun w hS => x_loadN (vs := [(vI .i64 m), (vI .i64 s), (vI .i64 m), (vI .i64 s), (vI .i64 1), (vB false)]) rfl Try.underlying66 rfl z66 rfl (Rd.cells hS.1 0 rfl)) hq117_ ?_
  refine A_ready (i := 0) (rs := [4]) (by kernel_rfl) ?_
  refine AllR.cons ?_ ?_
  ·skip
   refine A_op (ls' := #[true, true, false, true, false, false, false]) rfl (by kernel_rfl) (T_new (obj := .cells #[] 66) (f := fun b__ => .slice (some ⟨b__, 0, none⟩) 0 0) (A := fun b__ => cl b__ 66 []) (by kernel_rfl) (fun l h => h.alloc _ _) H116_ ?_)
   intro b118_ w119_ S121_ H120_
   have S122_ := Same.trans (Same.trans S25_ (Same.drew _)) S121_
   refine ⟨⟨Holds.rd H120_ 2 rfl, (Holds.ro_at H120_ 1 rfl)⟩, ?_⟩
   refine A_ready (i := 2) (rs := [4]) (by kernel_rfl) ?_
   refine AllR.cons ?_ ?_
   ·skip
    have H123_ : Holds w119_ (cl b118_ 66 ([] ++ [] ++ []) :: ro R :: cl b8_ 66 [(vI .i64 m), (vI .i64 s), (vI .i64 m), (vI .i64 s), (vI .i64 1), (vB false)] :: cl b2_ 31 [(vI .i64 m), (vI .i64 s)] :: F) := cast1 (P := fun (c__ : List Value) => Holds w119_ (cl b118_ 66 c__ :: ro R :: cl b8_ 66 [(vI .i64 m), (vI .i64 s), (vI .i64 m), (vI .i64 s), (vI .i64 1), (vB false)] :: cl b2_ 31 [(vI .i64 m), (vI .i64 s)] :: F)) (by kernel_rfl : [] = [] ++ [] ++ []) H120_
    have H124_ : Holds w119_ (sl 66 6 (vS (some ⟨b118_, 0, none⟩) 0 0) 0 [] :: ro R :: cl b8_ 66 [(vI .i64 m), (vI .i64 s), (vI .i64 m), (vI .i64 s), (vI .i64 1), (vB false)] :: cl b2_ 31 [(vI .i64 m), (vI .i64 s)] :: F) := Holds.to_sl H123_ 0 [] [] (xs := []) (m := 0) (cap := 0) (sz := 6) rfl (by kernel_rfl) (by kernel_rfl) (by omega)
    refine A_op (ls' := #[true, true, true, true, false, false, false]) rfl (by kernel_rfl) (T_append rfl rfl Try.underlying23 z66 rfl (by decide) H124_ 0 rfl (RS.src hL (Holds.ro_at H124_ 1 rfl) Try.underlying23 (ones_VR _)) (by first | omega | (simp only [List.length_append, List.length_cons, List.length_nil]; omega)) ?_)
    intro v125_ w126_ S128_ H127_
    have S129_ := Same.trans S122_ S128_
    refine ⟨⟨Holds.rd H127_ 2 rfl, (Holds.ro_at H127_ 1 rfl)⟩, ?_⟩
    refine A_ready (i := 4) (rs := []) (by kernel_rfl) ?_
    refine AllR.cons ?_ AllR.nil
    refine A_op (ls' := #[true, true, true, true, true, false, false]) rfl (by kernel_rfl) (T_new (obj := .cells #[(vI .i64 m), (vI .i64 s), (vI .i64 m), (vI .i64 s), (vI .i64 1), (vB false)] 66) (f := fun b__ => .slice (some ⟨b__, 0, none⟩) 1 1) (A := fun b__ => cl b__ 66 [(vI .i64 m), (vI .i64 s), (vI .i64 m), (vI .i64 s), (vI .i64 1), (vB false)]) (by kernel_rfl) (fun l h => h.alloc _ _) H127_ ?_)
    intro b130_ w131_ S133_ H132_
    have S134_ := Same.trans S129_ S133_
    refine ⟨⟨Holds.rd H132_ 3 rfl, (Holds.ro_at H132_ 2 rfl)⟩, ?_⟩
    refine A_ready (i := 5) (rs := []) (by kernel_rfl) ?_
    refine AllR.cons ?_ AllR.nil
    refine A_op (ls' := #[true, true, true, true, true, true, false]) rfl (by kernel_rfl) (T_append rfl rfl Try.underlying23 z66 rfl (by decide) H132_ 1 rfl (Holds.cl_src H132_ 0 rfl Try.underlying23 (by simp [Value.oneCell']) rfl) (by first | omega | (simp only [List.length_append, List.length_cons, List.length_nil]; omega)) ?_)
    intro v135_ w136_ S138_ H137_
    have S139_ := Same.trans S134_ S138_
    refine ⟨⟨Holds.rd H137_ 3 rfl, (Holds.ro_at H137_ 2 rfl)⟩, ?_⟩
    have hq140_ := And.intro (Holds.rd H137_ 3 rfl) ((Holds.ro_at H137_ 2 rfl))
    refine A_tk 6 (v := v135_) rfl (by kernel_rfl) (fun w hS => x_assign rfl) hq140_ ?_
    refine A_done (by kernel_rfl) ?_
    refine (X_then (hK115_ _ _ ?_))
    clear hK115_
    refine C_ret ?_
    refine R_any (v := v135_) (run_results1 rfl rfl) ?_
    have H141_ := Holds.resl H137_ 1 rfl ((by first | rfl | (simp_all [VR.cells, vPut, vEnd, VR.rv, RV.cells]; done) | (simp [VR.cells, vPut, vEnd, VR.rv, RV.cells]; done) | (simp; omega) | omega) : ([] ++ (L.flatMap VR.cells)) ++ [(vI .i64 m), (vI .i64 s), (vI .i64 m), (vI .i64 s), (vI .i64 1), (vB false)] = (L ++ [vPut L m s]).flatMap VR.cells) ((by first | rfl | (simp_all [VR.cells, vPut, vEnd, VR.rv, RV.cells]; done) | (simp [VR.cells, vPut, vEnd, VR.rv, RV.cells]; done) | (simp; omega) | omega) : 0 + (List.length L) + 1 = (List.length (L ++ [vPut L m s])))
    have H142_ : Holds w136_ (ro R :: sl 66 6 v135_ (List.length (L ++ [vPut L m s])) ((L ++ [vPut L m s]).flatMap VR.cells) :: F) := (Holds.pkF H141_ [2, 1] 3 :)
    exact ⟨_, _, rfl, ⟨v135_, rfl, rfl⟩, S139_, H142_⟩
   refine AllR.cons ?_ AllR.nil
   refine A_op (ls' := #[true, true, false, true, true, false, false]) rfl (by kernel_rfl) (T_new (obj := .cells #[(vI .i64 m), (vI .i64 s), (vI .i64 m), (vI .i64 s), (vI .i64 1), (vB false)] 66) (f := fun b__ => .slice (some ⟨b__, 0, none⟩) 1 1) (A := fun b__ => cl b__ 66 [(vI .i64 m), (vI .i64 s), (vI .i64 m), (vI .i64 s), (vI .i64 1), (vB false)]) (by kernel_rfl) (fun l h => h.alloc _ _) H120_ ?_)
   intro b143_ w144_ S146_ H145_
   have S147_ := Same.trans S122_ S146_
   refine ⟨⟨Holds.rd H145_ 3 rfl, (Holds.ro_at H145_ 2 rfl)⟩, ?_⟩
   refine A_ready (i := 2) (rs := []) (by kernel_rfl) ?_
   refine AllR.cons ?_ AllR.nil
   have H148_ : Holds w144_ (cl b143_ 66 [(vI .i64 m), (vI .i64 s), (vI .i64 m), (vI .i64 s), (vI .i64 1), (vB false)] :: cl b118_ 66 ([] ++ [] ++ []) :: ro R :: cl b8_ 66 [(vI .i64 m), (vI .i64 s), (vI .i64 m), (vI .i64 s), (vI .i64 1), (vB false)] :: cl b2_ 31 [(vI .i64 m), (vI .i64 s)] :: F) := cast1 (P := fun (c__ : List Value) => Holds w144_ (cl b143_ 66 [(vI .i64 m), (vI .i64 s), (vI .i64 m), (vI .i64 s), (vI .i64 1), (vB false)] :: cl b118_ 66 c__ :: ro R :: cl b8_ 66 [(vI .i64 m), (vI .i64 s), (vI .i64 m), (vI .i64 s), (vI .i64 1), (vB false)] :: cl b2_ 31 [(vI .i64 m), (vI .i64 s)] :: F)) (by kernel_rfl : [] = [] ++ [] ++ []) H145_
   have H149_ : Holds w144_ (cl b143_ 66 [(vI .i64 m), (vI .i64 s), (vI .i64 m), (vI .i64 s), (vI .i64 1), (vB false)] :: sl 66 6 (vS (some ⟨b118_, 0, none⟩) 0 0) 0 [] :: ro R :: cl b8_ 66 [(vI .i64 m), (vI .i64 s), (vI .i64 m), (vI .i64 s), (vI .i64 1), (vB false)] :: cl b2_ 31 [(vI .i64 m), (vI .i64 s)] :: F) := Holds.to_sl H148_ 1 [] [] (xs := []) (m := 0) (cap := 0) (sz := 6) rfl (by kernel_rfl) (by kernel_rfl) (by omega)
   refine A_op (ls' := #[true, true, true, true, true, false, false]) rfl (by kernel_rfl) (T_append rfl rfl Try.underlying23 z66 rfl (by decide) H149_ 1 rfl (RS.src hL (Holds.ro_at H149_ 2 rfl) Try.underlying23 (ones_VR _)) (by first | omega | (simp only [List.length_append, List.length_cons, List.length_nil]; omega)) ?_)
   intro v150_ w151_ S153_ H152_
   have S154_ := Same.trans S147_ S153_
   refine ⟨⟨Holds.rd H152_ 3 rfl, (Holds.ro_at H152_ 2 rfl)⟩, ?_⟩
   refine A_ready (i := 5) (rs := []) (by kernel_rfl) ?_
   refine AllR.cons ?_ AllR.nil
   refine A_op (ls' := #[true, true, true, true, true, true, false]) rfl (by kernel_rfl) (T_append rfl rfl Try.underlying23 z66 rfl (by decide) H152_ 1 rfl (Holds.cl_src H152_ 0 rfl Try.underlying23 (by simp [Value.oneCell']) rfl) (by first | omega | (simp only [List.length_append, List.length_cons, List.length_nil]; omega)) ?_)
   intro v155_ w156_ S158_ H157_
   have S159_ := Same.trans S154_ S158_
   refine ⟨⟨Holds.rd H157_ 3 rfl, (Holds.ro_at H157_ 2 rfl)⟩, ?_⟩
   have hq160_ := And.intro (Holds.rd H157_ 3 rfl) ((Holds.ro_at H157_ 2 rfl))
   refine A_tk 6 (v := v155_) rfl (by kernel_rfl) (fun w hS => x_assign rfl) hq160_ ?_
   refine A_done (by kernel_rfl) ?_
   refine (X_then (hK115_ _ _ ?_))
   clear hK115_
   refine C_ret ?_
   refine R_any (v := v155_) (run_results1 rfl rfl) ?_
   have H161_ := Holds.resl H157_ 1 rfl ((by first | rfl | (simp_all [VR.cells, vPut, vEnd, VR.rv, RV.cells]; done) | (simp [VR.cells, vPut, vEnd, VR.rv, RV.cells]; done) | (simp; omega) | omega) : ([] ++ (L.flatMap VR.cells)) ++ [(vI .i64 m), (vI .i64 s), (vI .i64 m), (vI .i64 s), (vI .i64 1), (vB false)] = (L ++ [vPut L m s]).flatMap VR.cells) ((by first | rfl | (simp_all [VR.cells, vPut, vEnd, VR.rv, RV.cells]; done) | (simp [VR.cells, vPut, vEnd, VR.rv, RV.cells]; done) | (simp; omega) | omega) : 0 + (List.length L) + 1 = (List.length (L ++ [vPut L m s])))
   have H162_ : Holds w156_ (ro R :: sl 66 6 v155_ (List.length (L ++ [vPut L m s])) ((L ++ [vPut L m s]).flatMap VR.cells) :: F) := (Holds.pkF H161_ [2, 1] 3 :)
   exact ⟨_, _, rfl, ⟨v155_, rfl, rfl⟩, S159_, H162_⟩
  refine AllR.cons ?_ AllR.nil
  refine A_op (ls' := #[false, true, false, true, true, false, false]) rfl (by kernel_rfl) (T_new (obj := .cells #[(vI .i64 m), (vI .i64 s), (vI .i64 m), (vI .i64 s), (vI .i64 1), (vB false)] 66) (f := fun b__ => .slice (some ⟨b__, 0, none⟩) 1 1) (A := fun b__ => cl b__ 66 [(vI .i64 m), (vI .i64 s), (vI .i64 m), (vI .i64 s), (vI .i64 1), (vB false)]) (by kernel_rfl) (fun l h => h.alloc _ _) H116_ ?_)
  intro b163_ w164_ S166_ H165_
  have S167_ := Same.trans (Same.trans S25_ (Same.drew _)) S166_
  refine ⟨⟨Holds.rd H165_ 2 rfl, (Holds.ro_at H165_ 1 rfl)⟩, ?_⟩
  refine A_ready (i := 0) (rs := []) (by kernel_rfl) ?_
  refine AllR.cons ?_ AllR.nil
  refine A_op (ls' := #[true, true, false, true, true, false, false]) rfl (by kernel_rfl) (T_new (obj := .cells #[] 66) (f := fun b__ => .slice (some ⟨b__, 0, none⟩) 0 0) (A := fun b__ => cl b__ 66 []) (by kernel_rfl) (fun l h => h.alloc _ _) H165_ ?_)
  intro b168_ w169_ S171_ H170_
  have S172_ := Same.trans S167_ S171_
  refine ⟨⟨Holds.rd H170_ 3 rfl, (Holds.ro_at H170_ 2 rfl)⟩, ?_⟩
  refine A_ready (i := 2) (rs := []) (by kernel_rfl) ?_
  refine AllR.cons ?_ AllR.nil
  have H173_ : Holds w169_ (cl b168_ 66 ([] ++ [] ++ []) :: cl b163_ 66 [(vI .i64 m), (vI .i64 s), (vI .i64 m), (vI .i64 s), (vI .i64 1), (vB false)] :: ro R :: cl b8_ 66 [(vI .i64 m), (vI .i64 s), (vI .i64 m), (vI .i64 s), (vI .i64 1), (vB false)] :: cl b2_ 31 [(vI .i64 m), (vI .i64 s)] :: F) := cast1 (P := fun (c__ : List Value) => Holds w169_ (cl b168_ 66 c__ :: cl b163_ 66 [(vI .i64 m), (vI .i64 s), (vI .i64 m), (vI .i64 s), (vI .i64 1), (vB false)] :: ro R :: cl b8_ 66 [(vI .i64 m), (vI .i64 s), (vI .i64 m), (vI .i64 s), (vI .i64 1), (vB false)] :: cl b2_ 31 [(vI .i64 m), (vI .i64 s)] :: F)) (by kernel_rfl : [] = [] ++ [] ++ []) H170_
  have H174_ : Holds w169_ (sl 66 6 (vS (some ⟨b168_, 0, none⟩) 0 0) 0 [] :: cl b163_ 66 [(vI .i64 m), (vI .i64 s), (vI .i64 m), (vI .i64 s), (vI .i64 1), (vB false)] :: ro R :: cl b8_ 66 [(vI .i64 m), (vI .i64 s), (vI .i64 m), (vI .i64 s), (vI .i64 1), (vB false)] :: cl b2_ 31 [(vI .i64 m), (vI .i64 s)] :: F) := Holds.to_sl H173_ 0 [] [] (xs := []) (m := 0) (cap := 0) (sz := 6) rfl (by kernel_rfl) (by kernel_rfl) (by omega)
  refine A_op (ls' := #[true, true, true, true, true, false, false]) rfl (by kernel_rfl) (T_append rfl rfl Try.underlying23 z66 rfl (by decide) H174_ 0 rfl (RS.src hL (Holds.ro_at H174_ 2 rfl) Try.underlying23 (ones_VR _)) (by first | omega | (simp only [List.length_append, List.length_cons, List.length_nil]; omega)) ?_)
  intro v175_ w176_ S178_ H177_
  have S179_ := Same.trans S172_ S178_
  refine ⟨⟨Holds.rd H177_ 3 rfl, (Holds.ro_at H177_ 2 rfl)⟩, ?_⟩
  refine A_ready (i := 5) (rs := []) (by kernel_rfl) ?_
  refine AllR.cons ?_ AllR.nil
  refine A_op (ls' := #[true, true, true, true, true, true, false]) rfl (by kernel_rfl) (T_append rfl rfl Try.underlying23 z66 rfl (by decide) H177_ 0 rfl (Holds.cl_src H177_ 1 rfl Try.underlying23 (by simp [Value.oneCell']) rfl) (by first | omega | (simp only [List.length_append, List.length_cons, List.length_nil]; omega)) ?_)
  intro v180_ w181_ S183_ H182_
  have S184_ := Same.trans S179_ S183_
  refine ⟨⟨Holds.rd H182_ 3 rfl, (Holds.ro_at H182_ 2 rfl)⟩, ?_⟩
  have hq185_ := And.intro (Holds.rd H182_ 3 rfl) ((Holds.ro_at H182_ 2 rfl))
  refine A_tk 6 (v := v180_) rfl (by kernel_rfl) (fun w hS => x_assign rfl) hq185_ ?_
  refine A_done (by kernel_rfl) ?_
  refine (X_then (hK115_ _ _ ?_))
  clear hK115_
  refine C_ret ?_
  refine R_any (v := v180_) (run_results1 rfl rfl) ?_
  have H186_ := Holds.resl H182_ 0 rfl ((by first | rfl | (simp_all [VR.cells, vPut, vEnd, VR.rv, RV.cells]; done) | (simp [VR.cells, vPut, vEnd, VR.rv, RV.cells]; done) | (simp; omega) | omega) : ([] ++ (L.flatMap VR.cells)) ++ [(vI .i64 m), (vI .i64 s), (vI .i64 m), (vI .i64 s), (vI .i64 1), (vB false)] = (L ++ [vPut L m s]).flatMap VR.cells) ((by first | rfl | (simp_all [VR.cells, vPut, vEnd, VR.rv, RV.cells]; done) | (simp [VR.cells, vPut, vEnd, VR.rv, RV.cells]; done) | (simp; omega) | omega) : 0 + (List.length L) + 1 = (List.length (L ++ [vPut L m s])))
  have H187_ : Holds w181_ (ro R :: sl 66 6 v180_ (List.length (L ++ [vPut L m s])) ((L ++ [vPut L m s]).flatMap VR.cells) :: F) := (Holds.pkF H186_ [2, 0] 3 :)
  exact ⟨_, _, rfl, ⟨v180_, rfl, rfl⟩, S184_, H187_⟩

set_option maxHeartbeats 1600000 in
theorem kEnded (R : HP) (v : Value) (L : List VR) (m s : Int) (hL : RS R 6 v (List.length L) (L.flatMap VR.cells)) (hl : L.length ≤ 10000) (hv : ∀ x ∈ L, 0 ≤ x.ver ∧ x.ver ≤ 10000) (h0 : 0 < L.length) :
    Tri Try.prog 28 #[v, (vA #[(vI .i64 m), (vI .i64 s)])] R [] (fun v__ post__ => ∃ (v' : Value), v__ = v' ∧ post__ = [sl 66 6 v' (List.length (L ++ [vEnd L m s])) ((L ++ [vEnd L m s]).flatMap VR.cells)]) := by
 refine Tri.into (n := 24) (al := [v, (vA #[(vI .i64 m), (vI .i64 s)])]) Try.func28 rfl Try.ntmps28 rfl rfl fun w F H => ?_
 refine C_seq (fun K1_ hK1_ => C_reg ?_)
 refine S_list (T_box (v := (vA #[(vI .i64 m), (vI .i64 s)])) rfl H ?_)
 intro b2_ w3_ S5_ H4_
 have S6_ := Same.trans (Same.refl w) S5_
 refine sv (v := (vS none 0 0)) (x_assign rfl) ?_
 refine wpList_nil (X_then (hK1_ _ _ ?_))
 clear hK1_
 refine C_seq (fun K7_ hK7_ => C_reg ?_)
 refine sv (v := v) (x_move rfl) ?_
 refine sv (v := v) (x_move rfl) ?_
 refine sv (v := (vI .i64 ((List.length L) : Int))) (x_lenRS rfl hL Try.underlying23) ?_
 refine sv (v := (vI .i64 (((List.length L) : Int) - 1))) (x_bin rfl rfl (ib_sub (IntWalk.i64_in _ (by omega)))) ?_
 obtain ⟨x8_, hx9_, hm10_⟩ := elem_at L ((((List.length L) : Int) - 1).toNat) (by omega)
 have hp11_ := hv x8_ hm10_
 have hvl_ := vLast_at hx9_ (by omega)
 refine sv (v := (vP (some ⟨(sb v), so v + (((((List.length L) : Int) - 1).toNat) * 6 + 0), none⟩))) (x_idxRS (v := v) rfl hL rfl Try.underlying23 z66 (by omega) (by omega) (by omega : _ = (((List.length L) : Int) - 1).toNat) rfl) ?_
 refine sv (v := (vA #[(vI .i64 x8_.rev_Main), (vI .i64 x8_.rev_Sub), (vI .i64 x8_.created_Main), (vI .i64 x8_.created_Sub), (vI .i64 x8_.ver), (vB x8_.gone)])) (x_loadN (vs := [(vI .i64 x8_.rev_Main), (vI .i64 x8_.rev_Sub), (vI .i64 x8_.created_Main), (vI .i64 x8_.created_Sub), (vI .i64 x8_.ver), (vB x8_.gone)]) rfl Try.underlying66 rfl z66 rfl (RC.cells (RS.rc hL) (Holds.ro_at H4_ 1 rfl) (((((List.length L) : Int) - 1).toNat) * 6 + 0) (fm_cells VR.len hx9_ (i := 0) rfl))) ?_
 refine S_list (T_alloc z66 H4_ ?_)
 intro b12_ w13_ S15_ H14_
 have S16_ := Same.trans S6_ S15_
 refine S_list0 (T_storeN (vs := [(vI .i64 x8_.rev_Main), (vI .i64 x8_.rev_Sub), (vI .i64 x8_.created_Main), (vI .i64 x8_.created_Sub), (vI .i64 x8_.ver), (vB x8_.gone)]) rfl rfl z66 rfl (by simp [Value.oneCell']) H14_ 0 rfl (Nat.le_of_ble_eq_true (by rfl)) ?_)
 intro w17_ S19_ H18_
 have S20_ := Same.trans S16_ S19_
 refine wpList_nil (X_then (hK7_ _ _ ?_))
 clear hK7_
 refine C_seq (fun K21_ hK21_ => ?_)
 refine A_start (S := fun w => Rd b12_ [(vI .i64 x8_.rev_Main), (vI .i64 x8_.rev_Sub), (vI .i64 x8_.created_Main), (vI .i64 x8_.created_Sub), (vI .i64 x8_.ver), (vB x8_.gone)] w ∧ Rd b2_ [(vI .i64 m), (vI .i64 s)] w ∧ Sub R (hp w)) (N := 13) foll rfl rfl ?_
 have H22_ := Holds.drew_ H18_
 have hq23_ := And.intro (Holds.rd H22_ 0 rfl) (And.intro (Holds.rd H22_ 1 rfl) ((Holds.ro_at H22_ 2 rfl)))
 refine A_tk 1 (v := v) rfl (by kernel_rfl) (fun w hS => x_move rfl) hq23_ ?_
 refine A_tk 3 (v := (vA #[(vI .i64 m), (vI .i64 s)])) rfl (by kernel_rfl) (fun w hS => x_loadN (vs := [(vI .i64 m), (vI .i64 s)]) rfl Try.underlying31 rfl z31 rfl (Rd.cells hS.2.1 0 rfl)) hq23_ ?_
 refine A_tk 4 (v := (vP (some ⟨b12_, 2, none⟩))) rfl (by kernel_rfl) (fun w hS => by kernel_rfl) hq23_ ?_
 refine A_tk 5 (v := (vA #[(vI .i64 x8_.created_Main), (vI .i64 x8_.created_Sub)])) rfl (by kernel_rfl) (fun w hS => x_loadN (vs := [(vI .i64 x8_.created_Main), (vI .i64 x8_.created_Sub)]) rfl Try.underlying31 rfl z31 rfl (Rd.cells hS.1 2 rfl)) hq23_ ?_
 refine A_tk 6 (v := (vP (some ⟨b12_, 4, none⟩))) rfl (by kernel_rfl) (fun w hS => by kernel_rfl) hq23_ ?_
 refine A_tk 7 (v := (vI .i64 x8_.ver)) rfl (by kernel_rfl) (fun w hS => x_load1 rfl Try.underlying2 rfl (hS.1 4 (vI .i64 x8_.ver) rfl)) hq23_ ?_
 refine A_tk 8 (v := (vI .i64 (x8_.ver + 1))) rfl (by kernel_rfl) (fun w hS => x_bin rfl rfl (ib_add (IntWalk.i64_in _ (by omega)))) hq23_ ?_
 refine A_tk 9 (v := (vA #[(vI .i64 m), (vI .i64 s), (vI .i64 x8_.created_Main), (vI .i64 x8_.created_Sub), (vI .i64 (x8_.ver + 1)), (vB true)])) rfl (by kernel_rfl) (fun w hS => by kernel_rfl) hq23_ ?_
 refine A_ready (i := 0) (rs := [10]) (by kernel_rfl) ?_
 refine AllR.cons ?_ ?_
 ·skip
  refine A_op (ls' := #[true, true, false, true, true, true, true, true, true, true, false, false, false]) rfl (by kernel_rfl) (T_new (obj := .cells #[] 66) (f := fun b__ => .slice (some ⟨b__, 0, none⟩) 0 0) (A := fun b__ => cl b__ 66 []) (by kernel_rfl) (fun l h => h.alloc _ _) H22_ ?_)
  intro b24_ w25_ S27_ H26_
  have S28_ := Same.trans (Same.trans S20_ (Same.drew _)) S27_
  refine ⟨⟨Holds.rd H26_ 1 rfl, Holds.rd H26_ 2 rfl, (Holds.ro_at H26_ 3 rfl)⟩, ?_⟩
  refine A_ready (i := 2) (rs := [10]) (by kernel_rfl) ?_
  refine AllR.cons ?_ ?_
  ·skip
   have H29_ : Holds w25_ (cl b24_ 66 ([] ++ [] ++ []) :: cl b12_ 66 [(vI .i64 x8_.rev_Main), (vI .i64 x8_.rev_Sub), (vI .i64 x8_.created_Main), (vI .i64 x8_.created_Sub), (vI .i64 x8_.ver), (vB x8_.gone)] :: cl b2_ 31 [(vI .i64 m), (vI .i64 s)] :: ro R :: F) := cast1 (P := fun (c__ : List Value) => Holds w25_ (cl b24_ 66 c__ :: cl b12_ 66 [(vI .i64 x8_.rev_Main), (vI .i64 x8_.rev_Sub), (vI .i64 x8_.created_Main), (vI .i64 x8_.created_Sub), (vI .i64 x8_.ver), (vB x8_.gone)] :: cl b2_ 31 [(vI .i64 m), (vI .i64 s)] :: ro R :: F)) (by kernel_rfl : [] = [] ++ [] ++ []) H26_
   have H30_ : Holds w25_ (sl 66 6 (vS (some ⟨b24_, 0, none⟩) 0 0) 0 [] :: cl b12_ 66 [(vI .i64 x8_.rev_Main), (vI .i64 x8_.rev_Sub), (vI .i64 x8_.created_Main), (vI .i64 x8_.created_Sub), (vI .i64 x8_.ver), (vB x8_.gone)] :: cl b2_ 31 [(vI .i64 m), (vI .i64 s)] :: ro R :: F) := Holds.to_sl H29_ 0 [] [] (xs := []) (m := 0) (cap := 0) (sz := 6) rfl (by kernel_rfl) (by kernel_rfl) (by omega)
   refine A_op (ls' := #[true, true, true, true, true, true, true, true, true, true, false, false, false]) rfl (by kernel_rfl) (T_append rfl rfl Try.underlying23 z66 rfl (by decide) H30_ 0 rfl (RS.src hL (Holds.ro_at H30_ 3 rfl) Try.underlying23 (ones_VR _)) (by first | omega | (simp only [List.length_append, List.length_cons, List.length_nil]; omega)) ?_)
   intro v31_ w32_ S34_ H33_
   have S35_ := Same.trans S28_ S34_
   refine ⟨⟨Holds.rd H33_ 1 rfl, Holds.rd H33_ 2 rfl, (Holds.ro_at H33_ 3 rfl)⟩, ?_⟩
   refine A_ready (i := 10) (rs := []) (by kernel_rfl) ?_
   refine AllR.cons ?_ AllR.nil
   refine A_op (ls' := #[true, true, true, true, true, true, true, true, true, true, true, false, false]) rfl (by kernel_rfl) (T_new (obj := .cells #[(vI .i64 m), (vI .i64 s), (vI .i64 x8_.created_Main), (vI .i64 x8_.created_Sub), (vI .i64 (x8_.ver + 1)), (vB true)] 66) (f := fun b__ => .slice (some ⟨b__, 0, none⟩) 1 1) (A := fun b__ => cl b__ 66 [(vI .i64 m), (vI .i64 s), (vI .i64 x8_.created_Main), (vI .i64 x8_.created_Sub), (vI .i64 (x8_.ver + 1)), (vB true)]) (by kernel_rfl) (fun l h => h.alloc _ _) H33_ ?_)
   intro b36_ w37_ S39_ H38_
   have S40_ := Same.trans S35_ S39_
   refine ⟨⟨Holds.rd H38_ 2 rfl, Holds.rd H38_ 3 rfl, (Holds.ro_at H38_ 4 rfl)⟩, ?_⟩
   refine A_ready (i := 11) (rs := []) (by kernel_rfl) ?_
   refine AllR.cons ?_ AllR.nil
   refine A_op (ls' := #[true, true, true, true, true, true, true, true, true, true, true, true, false]) rfl (by kernel_rfl) (T_append rfl rfl Try.underlying23 z66 rfl (by decide) H38_ 1 rfl (Holds.cl_src H38_ 0 rfl Try.underlying23 (by simp [Value.oneCell']) rfl) (by first | omega | (simp only [List.length_append, List.length_cons, List.length_nil]; omega)) ?_)
   intro v41_ w42_ S44_ H43_
   have S45_ := Same.trans S40_ S44_
   refine ⟨⟨Holds.rd H43_ 2 rfl, Holds.rd H43_ 3 rfl, (Holds.ro_at H43_ 4 rfl)⟩, ?_⟩
   have hq46_ := And.intro (Holds.rd H43_ 2 rfl) (And.intro (Holds.rd H43_ 3 rfl) ((Holds.ro_at H43_ 4 rfl)))
   refine A_tk 12 (v := v41_) rfl (by kernel_rfl) (fun w hS => x_assign rfl) hq46_ ?_
   refine A_done (by kernel_rfl) ?_
   refine (X_then (hK21_ _ _ ?_))
   clear hK21_
   refine C_ret ?_
   refine R_any (v := v41_) (run_results1 rfl rfl) ?_
   have H47_ := Holds.resl H43_ 1 rfl ((by first | rfl | (simp_all [VR.cells, vPut, vEnd, VR.rv, RV.cells]; done) | (simp [VR.cells, vPut, vEnd, VR.rv, RV.cells]; done) | (simp; omega) | omega) : ([] ++ (L.flatMap VR.cells)) ++ [(vI .i64 m), (vI .i64 s), (vI .i64 x8_.created_Main), (vI .i64 x8_.created_Sub), (vI .i64 (x8_.ver + 1)), (vB true)] = (L ++ [vEnd L m s]).flatMap VR.cells) ((by first | rfl | (simp_all [VR.cells, vPut, vEnd, VR.rv, RV.cells]; done) | (simp [VR.cells, vPut, vEnd, VR.rv, RV.cells]; done) | (simp; omega) | omega) : 0 + (List.length L) + 1 = (List.length (L ++ [vEnd L m s])))
   have H48_ : Holds w42_ (ro R :: sl 66 6 v41_ (List.length (L ++ [vEnd L m s])) ((L ++ [vEnd L m s]).flatMap VR.cells) :: F) := (Holds.pkF H47_ [4, 1] 3 :)
   exact ⟨_, _, rfl, ⟨v41_, rfl, rfl⟩, S45_, H48_⟩
  refine AllR.cons ?_ AllR.nil
  refine A_op (ls' := #[true, true, false, true, true, true, true, true, true, true, true, false, false]) rfl (by kernel_rfl) (T_new (obj := .cells #[(vI .i64 m), (vI .i64 s), (vI .i64 x8_.created_Main), (vI .i64 x8_.created_Sub), (vI .i64 (x8_.ver + 1)), (vB true)] 66) (f := fun b__ => .slice (some ⟨b__, 0, none⟩) 1 1) (A := fun b__ => cl b__ 66 [(vI .i64 m), (vI .i64 s), (vI .i64 x8_.created_Main), (vI .i64 x8_.created_Sub), (vI .i64 (x8_.ver + 1)), (vB true)]) (by kernel_rfl) (fun l h => h.alloc _ _) H26_ ?_)
  intro b49_ w50_ S52_ H51_
  have S53_ := Same.trans S28_ S52_
  refine ⟨⟨Holds.rd H51_ 2 rfl, Holds.rd H51_ 3 rfl, (Holds.ro_at H51_ 4 rfl)⟩, ?_⟩
  refine A_ready (i := 2) (rs := []) (by kernel_rfl) ?_
  refine AllR.cons ?_ AllR.nil
  have H54_ : Holds w50_ (cl b49_ 66 [(vI .i64 m), (vI .i64 s), (vI .i64 x8_.created_Main), (vI .i64 x8_.created_Sub), (vI .i64 (x8_.ver + 1)), (vB true)] :: cl b24_ 66 ([] ++ [] ++ []) :: cl b12_ 66 [(vI .i64 x8_.rev_Main), (vI .i64 x8_.rev_Sub), (vI .i64 x8_.created_Main), (vI .i64 x8_.created_Sub), (vI .i64 x8_.ver), (vB x8_.gone)] :: cl b2_ 31 [(vI .i64 m), (vI .i64 s)] :: ro R :: F) := cast1 (P := fun (c__ : List Value) => Holds w50_ (cl b49_ 66 [(vI .i64 m), (vI .i64 s), (vI .i64 x8_.created_Main), (vI .i64 x8_.created_Sub), (vI .i64 (x8_.ver + 1)), (vB true)] :: cl b24_ 66 c__ :: cl b12_ 66 [(vI .i64 x8_.rev_Main), (vI .i64 x8_.rev_Sub), (vI .i64 x8_.created_Main), (vI .i64 x8_.created_Sub), (vI .i64 x8_.ver), (vB x8_.gone)] :: cl b2_ 31 [(vI .i64 m), (vI .i64 s)] :: ro R :: F)) (by kernel_rfl : [] = [] ++ [] ++ []) H51_
  have H55_ : Holds w50_ (cl b49_ 66 [(vI .i64 m), (vI .i64 s), (vI .i64 x8_.created_Main), (vI .i64 x8_.created_Sub), (vI .i64 (x8_.ver + 1)), (vB true)] :: sl 66 6 (vS (some ⟨b24_, 0, none⟩) 0 0) 0 [] :: cl b12_ 66 [(vI .i64 x8_.rev_Main), (vI .i64 x8_.rev_Sub), (vI .i64 x8_.created_Main), (vI .i64 x8_.created_Sub), (vI .i64 x8_.ver), (vB x8_.gone)] :: cl b2_ 31 [(vI .i64 m), (vI .i64 s)] :: ro R :: F) := Holds.to_sl H54_ 1 [] [] (xs := []) (m := 0) (cap := 0) (sz := 6) rfl (by kernel_rfl) (by kernel_rfl) (by omega)
  refine A_op (ls' := #[true, true, true, true, true, true, true, true, true, true, true, false, false]) rfl (by kernel_rfl) (T_append rfl rfl Try.underlying23 z66 rfl (by decide) H55_ 1 rfl (RS.src hL (Holds.ro_at H55_ 4 rfl) Try.underlying23 (ones_VR _)) (by first | omega | (simp only [List.length_append, List.length_cons, List.length_nil]; omega)) ?_)
  intro v56_ w57_ S59_ H58_
  have S60_ := Same.trans S53_ S59_
  refine ⟨⟨Holds.rd H58_ 2 rfl, Holds.rd H58_ 3 rfl, (Holds.ro_at H58_ 4 rfl)⟩, ?_⟩
  refine A_ready (i := 11) (rs := []) (by kernel_rfl) ?_
  refine AllR.cons ?_ AllR.nil
  refine A_op (ls' := #[true, true, true, true, true, true, true, true, true, true, true, true, false]) rfl (by kernel_rfl) (T_append rfl rfl Try.underlying23 z66 rfl (by decide) H58_ 1 rfl (Holds.cl_src H58_ 0 rfl Try.underlying23 (by simp [Value.oneCell']) rfl) (by first | omega | (simp only [List.length_append, List.length_cons, List.length_nil]; omega)) ?_)
  intro v61_ w62_ S64_ H63_
  have S65_ := Same.trans S60_ S64_
  refine ⟨⟨Holds.rd H63_ 2 rfl, Holds.rd H63_ 3 rfl, (Holds.ro_at H63_ 4 rfl)⟩, ?_⟩
  have hq66_ := And.intro (Holds.rd H63_ 2 rfl) (And.intro (Holds.rd H63_ 3 rfl) ((Holds.ro_at H63_ 4 rfl)))
  refine A_tk 12 (v := v61_) rfl (by kernel_rfl) (fun w hS => x_assign rfl) hq66_ ?_
  refine A_done (by kernel_rfl) ?_
  refine (X_then (hK21_ _ _ ?_))
  clear hK21_
  refine C_ret ?_
  refine R_any (v := v61_) (run_results1 rfl rfl) ?_
  have H67_ := Holds.resl H63_ 1 rfl ((by first | rfl | (simp_all [VR.cells, vPut, vEnd, VR.rv, RV.cells]; done) | (simp [VR.cells, vPut, vEnd, VR.rv, RV.cells]; done) | (simp; omega) | omega) : ([] ++ (L.flatMap VR.cells)) ++ [(vI .i64 m), (vI .i64 s), (vI .i64 x8_.created_Main), (vI .i64 x8_.created_Sub), (vI .i64 (x8_.ver + 1)), (vB true)] = (L ++ [vEnd L m s]).flatMap VR.cells) ((by first | rfl | (simp_all [VR.cells, vPut, vEnd, VR.rv, RV.cells]; done) | (simp [VR.cells, vPut, vEnd, VR.rv, RV.cells]; done) | (simp; omega) | omega) : 0 + (List.length L) + 1 = (List.length (L ++ [vEnd L m s])))
  have H68_ : Holds w62_ (ro R :: sl 66 6 v61_ (List.length (L ++ [vEnd L m s])) ((L ++ [vEnd L m s]).flatMap VR.cells) :: F) := (Holds.pkF H67_ [4, 1] 3 :)
  exact ⟨_, _, rfl, ⟨v61_, rfl, rfl⟩, S65_, H68_⟩
 refine AllR.cons ?_ AllR.nil
 refine A_op (ls' := #[false, true, false, true, true, true, true, true, true, true, true, false, false]) rfl (by kernel_rfl) (T_new (obj := .cells #[(vI .i64 m), (vI .i64 s), (vI .i64 x8_.created_Main), (vI .i64 x8_.created_Sub), (vI .i64 (x8_.ver + 1)), (vB true)] 66) (f := fun b__ => .slice (some ⟨b__, 0, none⟩) 1 1) (A := fun b__ => cl b__ 66 [(vI .i64 m), (vI .i64 s), (vI .i64 x8_.created_Main), (vI .i64 x8_.created_Sub), (vI .i64 (x8_.ver + 1)), (vB true)]) (by kernel_rfl) (fun l h => h.alloc _ _) H22_ ?_)
 intro b69_ w70_ S72_ H71_
 have S73_ := Same.trans (Same.trans S20_ (Same.drew _)) S72_
 refine ⟨⟨Holds.rd H71_ 1 rfl, Holds.rd H71_ 2 rfl, (Holds.ro_at H71_ 3 rfl)⟩, ?_⟩
 refine A_ready (i := 0) (rs := []) (by kernel_rfl) ?_
 refine AllR.cons ?_ AllR.nil
 refine A_op (ls' := #[true, true, false, true, true, true, true, true, true, true, true, false, false]) rfl (by kernel_rfl) (T_new (obj := .cells #[] 66) (f := fun b__ => .slice (some ⟨b__, 0, none⟩) 0 0) (A := fun b__ => cl b__ 66 []) (by kernel_rfl) (fun l h => h.alloc _ _) H71_ ?_)
 intro b74_ w75_ S77_ H76_
 have S78_ := Same.trans S73_ S77_
 refine ⟨⟨Holds.rd H76_ 2 rfl, Holds.rd H76_ 3 rfl, (Holds.ro_at H76_ 4 rfl)⟩, ?_⟩
 refine A_ready (i := 2) (rs := []) (by kernel_rfl) ?_
 refine AllR.cons ?_ AllR.nil
 have H79_ : Holds w75_ (cl b74_ 66 ([] ++ [] ++ []) :: cl b69_ 66 [(vI .i64 m), (vI .i64 s), (vI .i64 x8_.created_Main), (vI .i64 x8_.created_Sub), (vI .i64 (x8_.ver + 1)), (vB true)] :: cl b12_ 66 [(vI .i64 x8_.rev_Main), (vI .i64 x8_.rev_Sub), (vI .i64 x8_.created_Main), (vI .i64 x8_.created_Sub), (vI .i64 x8_.ver), (vB x8_.gone)] :: cl b2_ 31 [(vI .i64 m), (vI .i64 s)] :: ro R :: F) := cast1 (P := fun (c__ : List Value) => Holds w75_ (cl b74_ 66 c__ :: cl b69_ 66 [(vI .i64 m), (vI .i64 s), (vI .i64 x8_.created_Main), (vI .i64 x8_.created_Sub), (vI .i64 (x8_.ver + 1)), (vB true)] :: cl b12_ 66 [(vI .i64 x8_.rev_Main), (vI .i64 x8_.rev_Sub), (vI .i64 x8_.created_Main), (vI .i64 x8_.created_Sub), (vI .i64 x8_.ver), (vB x8_.gone)] :: cl b2_ 31 [(vI .i64 m), (vI .i64 s)] :: ro R :: F)) (by kernel_rfl : [] = [] ++ [] ++ []) H76_
 have H80_ : Holds w75_ (sl 66 6 (vS (some ⟨b74_, 0, none⟩) 0 0) 0 [] :: cl b69_ 66 [(vI .i64 m), (vI .i64 s), (vI .i64 x8_.created_Main), (vI .i64 x8_.created_Sub), (vI .i64 (x8_.ver + 1)), (vB true)] :: cl b12_ 66 [(vI .i64 x8_.rev_Main), (vI .i64 x8_.rev_Sub), (vI .i64 x8_.created_Main), (vI .i64 x8_.created_Sub), (vI .i64 x8_.ver), (vB x8_.gone)] :: cl b2_ 31 [(vI .i64 m), (vI .i64 s)] :: ro R :: F) := Holds.to_sl H79_ 0 [] [] (xs := []) (m := 0) (cap := 0) (sz := 6) rfl (by kernel_rfl) (by kernel_rfl) (by omega)
 refine A_op (ls' := #[true, true, true, true, true, true, true, true, true, true, true, false, false]) rfl (by kernel_rfl) (T_append rfl rfl Try.underlying23 z66 rfl (by decide) H80_ 0 rfl (RS.src hL (Holds.ro_at H80_ 4 rfl) Try.underlying23 (ones_VR _)) (by first | omega | (simp only [List.length_append, List.length_cons, List.length_nil]; omega)) ?_)
 intro v81_ w82_ S84_ H83_
 have S85_ := Same.trans S78_ S84_
 refine ⟨⟨Holds.rd H83_ 2 rfl, Holds.rd H83_ 3 rfl, (Holds.ro_at H83_ 4 rfl)⟩, ?_⟩
 refine A_ready (i := 11) (rs := []) (by kernel_rfl) ?_
 refine AllR.cons ?_ AllR.nil
 refine A_op (ls' := #[true, true, true, true, true, true, true, true, true, true, true, true, false]) rfl (by kernel_rfl) (T_append rfl rfl Try.underlying23 z66 rfl (by decide) H83_ 0 rfl (Holds.cl_src H83_ 1 rfl Try.underlying23 (by simp [Value.oneCell']) rfl) (by first | omega | (simp only [List.length_append, List.length_cons, List.length_nil]; omega)) ?_)
 intro v86_ w87_ S89_ H88_
 have S90_ := Same.trans S85_ S89_
 refine ⟨⟨Holds.rd H88_ 2 rfl, Holds.rd H88_ 3 rfl, (Holds.ro_at H88_ 4 rfl)⟩, ?_⟩
 have hq91_ := And.intro (Holds.rd H88_ 2 rfl) (And.intro (Holds.rd H88_ 3 rfl) ((Holds.ro_at H88_ 4 rfl)))
 refine A_tk 12 (v := v86_) rfl (by kernel_rfl) (fun w hS => x_assign rfl) hq91_ ?_
 refine A_done (by kernel_rfl) ?_
 refine (X_then (hK21_ _ _ ?_))
 clear hK21_
 refine C_ret ?_
 refine R_any (v := v86_) (run_results1 rfl rfl) ?_
 have H92_ := Holds.resl H88_ 0 rfl ((by first | rfl | (simp_all [VR.cells, vPut, vEnd, VR.rv, RV.cells]; done) | (simp [VR.cells, vPut, vEnd, VR.rv, RV.cells]; done) | (simp; omega) | omega) : ([] ++ (L.flatMap VR.cells)) ++ [(vI .i64 m), (vI .i64 s), (vI .i64 x8_.created_Main), (vI .i64 x8_.created_Sub), (vI .i64 (x8_.ver + 1)), (vB true)] = (L ++ [vEnd L m s]).flatMap VR.cells) ((by first | rfl | (simp_all [VR.cells, vPut, vEnd, VR.rv, RV.cells]; done) | (simp [VR.cells, vPut, vEnd, VR.rv, RV.cells]; done) | (simp; omega) | omega) : 0 + (List.length L) + 1 = (List.length (L ++ [vEnd L m s])))
 have H93_ : Holds w87_ (ro R :: sl 66 6 v86_ (List.length (L ++ [vEnd L m s])) ((L ++ [vEnd L m s]).flatMap VR.cells) :: F) := (Holds.pkF H92_ [4, 0] 3 :)
 exact ⟨_, _, rfl, ⟨v86_, rfl, rfl⟩, S90_, H93_⟩
end Go.Proofs.Ytiblemgccgbhoaa
set_option linter.unusedVariables false
set_option linter.unusedSimpArgs false
namespace Go.Proofs.Ytiblemgccgbhoaa
open Go Go.RowKit Gw
open Go.Value renaming int → vI, bool → vB, slice → vS, pointer → vP, agg → vA, tuple → vT

set_option maxHeartbeats 1600000 in
theorem kLast (R : HP) (v : Value) (L : List VR) (at_ : Int) (hL : RS R 6 v (List.length L) (L.flatMap VR.cells)) (hl : L.length ≤ 10000) :
    Tri Try.prog 52 #[v, (vI .i64 at_)] R [] (fun v__ post__ => v__ = (vI .i64 ((vLastN L at_ L.length : Int) - 1)) ∧ post__ = []) := by
 refine Tri.into (n := 24) (al := [v, (vI .i64 at_)]) Try.func52 rfl Try.ntmps52 rfl rfl fun w F H => ?_
 refine C_seq (fun K1_ hK1_ => C_reg ?_)
 refine sv (v := (vI .i64 0)) (x_assign rfl) ?_
 refine wpList_nil (X_then (hK1_ _ _ ?_))
 clear hK1_
 refine C_seq (fun K2_ hK2_ => C_reg ?_)
 refine sv (v := v) (x_move rfl) ?_
 refine sv (v := (vI .i64 ((List.length L) : Int))) (x_lenRS rfl hL Try.underlying23) ?_
 refine sv (v := (vI .i64 (((List.length L) : Int) - 1))) (x_bin rfl rfl (ib_sub (IntWalk.i64_in _ (by omega)))) ?_
 refine sv (v := (vI .i64 (((List.length L) : Int) - 1))) (x_assign rfl) ?_
 refine wpList_nil (X_then (hK2_ _ _ ?_))
 clear hK2_
 refine C_seq (fun K3_ hK3_ => ?_)
 refine C_block ?_
 refine C_loop (γ := Nat) (fun n a__ w1__ => ∃ h : Env, a__ = mkA 24 (upd (upd (upd (upd h 0 v) 1 (vI .i64 at_)) 4 (vI .i64 0)) 5 (vI .i64 ((n : Int) - 1))) [] ∧ Holds w1__ (ro R :: F) ∧ Same w w1__ ∧ (n ≤ L.length) ∧ (vLastN L at_ L.length = vLastN L at_ n)) (fun n => n) (L.length) ⟨_, congrArg (fun e => mkA 24 e []) (ch (ch (ch (ch rfl rfl) rfl) rfl) (congrArg (vI .i64) ((by first | rfl | omega | (simp; done) | (simp; omega)) : ((List.length L) : Int) - 1 = (L.length : Int) - 1))), H, (Same.refl w), (by first | assumption | omega | exact rfl), (rfl)⟩ ?_
 rintro n _ w4_ ⟨h, rfl, H5_, S6_, hn, hin⟩
 refine C_seq (fun K7_ hK7_ => ?_)
 refine C_seq (fun K8_ hK8_ => C_reg ?_)
 refine sv (v := (vI .i64 ((n : Int) - 1))) (x_move rfl) ?_
 refine sv (v := (vB (decide (0 ≤ (n : Int) - 1)))) (x_bin rfl rfl rfl) ?_
 refine sv (v := (vB (decide (0 ≤ (n : Int) - 1)))) (x_move rfl) ?_
 rcases Bool.eq_false_or_eq_true (decide (0 ≤ (n : Int) - 1)) with c9_t | c9_f
 ·have c9_tp : 0 ≤ (n : Int) - 1 := of_decide_eq_true c9_t
  refine S_yes (j := 2) (dj := 11) (b := true) rfl rfl (congrArg vB c9_t) (T_val (v := v) (x_move rfl) ?_)
  refine S_yes (j := 2) (dj := 11) (b := true) rfl rfl (congrArg vB c9_t) (T_val (v := (vI .i64 ((n : Int) - 1))) (x_move rfl) ?_)
  obtain ⟨x10_, hx11_, hm12_⟩ := elem_at L (((n : Int) - 1).toNat) (by omega)
  refine S_yes (j := 2) (dj := 11) (b := true) rfl rfl (congrArg vB c9_t) (T_val (v := (vP (some ⟨(sb v), so v + ((((n : Int) - 1).toNat) * 6 + 0), none⟩))) (x_idxRS (v := v) rfl hL rfl Try.underlying23 z66 (by omega) (by omega) (by omega : _ = ((n : Int) - 1).toNat) rfl) ?_)
  refine S_yes (j := 2) (dj := 11) (b := true) rfl rfl (congrArg vB c9_t) (T_val (v := (vP (some ⟨(sb v), so v + ((((n : Int) - 1).toNat) * 6 + 0), none⟩))) (by kernel_rfl) ?_)
  refine S_yes (j := 2) (dj := 11) (b := true) rfl rfl (congrArg vB c9_t) (T_val (v := (vP (some ⟨(sb v), so v + ((((n : Int) - 1).toNat) * 6 + 0), none⟩))) (by kernel_rfl) ?_)
  refine S_yes (j := 2) (dj := 11) (b := true) rfl rfl (congrArg vB c9_t) (T_val (v := (vI .i64 x10_.rev_Main)) (x_load1 rfl Try.underlying2 rfl (RC.cell (RS.rc hL) (Holds.ro_at H5_ 0 rfl) (j := (((n : Int) - 1).toNat) * 6 + 0) (u := (vI .i64 x10_.rev_Main)) (fm_cell VR.len hx11_ (i := 0) rfl))) ?_)
  refine S_yes (j := 2) (dj := 11) (b := true) rfl rfl (congrArg vB c9_t) (T_val (v := (vI .i64 at_)) (x_move rfl) ?_)
  refine S_yes (j := 2) (dj := 11) (b := true) rfl rfl (congrArg vB c9_t) (T_val (v := (vB (decide (at_ < x10_.rev_Main)))) (x_bin rfl rfl rfl) ?_)
  refine S_list (T_pickT (v := (vB (decide (at_ < x10_.rev_Main)))) (congrArg vB c9_t) rfl ?_)
  refine wpList_nil (X_then (hK8_ _ _ ?_))
  clear hK8_
  refine C_cond (b := decide (at_ < x10_.rev_Main)) rfl (fun c13_t => ?_) (fun c13_f => ?_)
  ·have c13_tp : at_ < x10_.rev_Main := of_decide_eq_true c13_t
   refine C_skip (X_then (hK7_ _ _ ?_))
   clear hK7_
   refine C_block ?_
   refine C_reg ?_
   refine sv (v := (vI .i64 ((n : Int) - 1))) (x_move rfl) ?_
   refine sv (v := (vI .i64 (((n : Int) - 1) - 1))) (x_bin rfl rfl (ib_sub (IntWalk.i64_in _ (by omega)))) ?_
   refine sv (v := (vI .i64 (((n : Int) - 1) - 1))) (x_assign rfl) ?_
   refine wpList_nil (X_blkN (X_then ?_))
   exact ⟨(n - 1), ⟨_, congrArg (fun e => mkA 24 e []) (ch (ch (ch (ch rfl rfl) rfl) rfl) (congrArg (vI .i64) ((by first | rfl | omega | (simp; done) | (simp; omega)) : ((n : Int) - 1) - 1 = ((n - 1 : Nat) : Int) - 1))), H5_, S6_, (by first | assumption | omega | exact rfl), (by rw [hin, vLastN_no' hx11_ (by omega) (by omega)])⟩, by first | omega | (dsimp only; omega) | (simp; omega)⟩
  ·have c13_fp : ¬ (at_ < x10_.rev_Main) := of_decide_eq_false c13_f
   refine C_exit (X_thenX (X_thenX (X_blkHit ?_)))
   refine (X_then (hK3_ _ _ ?_))
   clear hK3_
   refine C_seq (fun K14_ hK14_ => C_reg ?_)
   refine sv (v := (vI .i64 ((n : Int) - 1))) (x_move rfl) ?_
   refine sv (v := (vI .i64 ((n : Int) - 1))) (x_assign rfl) ?_
   refine wpList_nil (X_then (hK14_ _ _ ?_))
   clear hK14_
   refine C_ret ?_
   refine R_any (v := (vI .i64 ((n : Int) - 1))) (run_results1 rfl rfl) ?_
   exact ⟨_, _, rfl, ⟨(congrArg (vI .i64) ((by rw [hin]; first | (rw [vLastN_yes' hx11_ (by omega) (by omega)]; done) | (obtain rfl : n = 0 := (by omega); rfl)) : (n : Int) - 1 = (vLastN L at_ L.length : Int) - 1)), rfl⟩, S6_, H5_⟩
 ·have c9_fp : ¬ (0 ≤ (n : Int) - 1) := of_decide_eq_false c9_f
  refine S_no (j := 2) (dj := 11) (b := false) rfl rfl (congrArg vB c9_f) (by decide) ?_
  refine S_no (j := 2) (dj := 11) (b := false) rfl rfl (congrArg vB c9_f) (by decide) ?_
  refine S_no (j := 2) (dj := 11) (b := false) rfl rfl (congrArg vB c9_f) (by decide) ?_
  refine S_no (j := 2) (dj := 11) (b := false) rfl rfl (congrArg vB c9_f) (by decide) ?_
  refine S_no (j := 2) (dj := 11) (b := false) rfl rfl (congrArg vB c9_f) (by decide) ?_
  refine S_no (j := 2) (dj := 11) (b := false) rfl rfl (congrArg vB c9_f) (by decide) ?_
  refine S_no (j := 2) (dj := 11) (b := false) rfl rfl (congrArg vB c9_f) (by decide) ?_
  refine S_no (j := 2) (dj := 11) (b := false) rfl rfl (congrArg vB c9_f) (by decide) ?_
  refine S_list (T_pickF (v := (vB false)) (congrArg vB c9_f) rfl ?_)
  refine wpList_nil (X_then (hK8_ _ _ ?_))
  clear hK8_
  refine C_condF rfl ?_
  refine C_exit (X_thenX (X_thenX (X_blkHit ?_)))
  refine (X_then (hK3_ _ _ ?_))
  clear hK3_
  refine C_seq (fun K15_ hK15_ => C_reg ?_)
  refine sv (v := (vI .i64 ((n : Int) - 1))) (x_move rfl) ?_
  refine sv (v := (vI .i64 ((n : Int) - 1))) (x_assign rfl) ?_
  refine wpList_nil (X_then (hK15_ _ _ ?_))
  clear hK15_
  refine C_ret ?_
  refine R_any (v := (vI .i64 ((n : Int) - 1))) (run_results1 rfl rfl) ?_
  exact ⟨_, _, rfl, ⟨(congrArg (vI .i64) ((by rw [hin]; first | (rw [vLastN_yes' hx11_ (by omega) (by omega)]; done) | (obtain rfl : n = 0 := (by omega); rfl)) : (n : Int) - 1 = (vLastN L at_ L.length : Int) - 1)), rfl⟩, S6_, H5_⟩

set_option maxHeartbeats 1600000 in
theorem kHolds (R : HP) (v : Value) (L : List VR) (at_ : Int) (hL : RS R 6 v (List.length L) (L.flatMap VR.cells)) (hl : L.length ≤ 10000) :
    Tri Try.prog 29 #[v, (vI .i64 at_)] R [] (fun v__ post__ => v__ = (vT #[(vA #[(vI .i64 ((vHold L at_).rev_Main)), (vI .i64 ((vHold L at_).rev_Sub)), (vI .i64 ((vHold L at_).created_Main)), (vI .i64 ((vHold L at_).created_Sub)), (vI .i64 ((vHold L at_).ver)), (vB ((vHold L at_).gone))]), (vB (vHoldB L at_))]) ∧ post__ = []) := by
 refine Tri.into (n := 24) (al := [v, (vI .i64 at_)]) Try.func29 rfl Try.ntmps29 rfl rfl fun w F H => ?_
 refine C_seq (fun K1_ hK1_ => C_reg ?_)
 refine S_list (T_alloc z66 H ?_)
 intro b2_ w3_ S5_ H4_
 have S6_ := Same.trans (Same.refl w) S5_
 refine sv (v := (vB false)) (x_assign rfl) ?_
 refine wpList_nil (X_then (hK1_ _ _ ?_))
 clear hK1_
 refine C_seq (fun K7_ hK7_ => C_reg ?_)
 refine sv (v := v) (x_move rfl) ?_
 refine sv (v := (vI .i64 at_)) (x_move rfl) ?_
 have H9_ := ((Holds.bring H4_ 1 rfl) :)
 refine S_list (T_call (al := [v, (vI .i64 at_)]) (pre := []) rfl rfl cb52 (kLast R v L at_ hL (by first | assumption | omega)) H9_ ?_)
 rintro v8_ p13_ w10_ ⟨rfl, rfl⟩ S12_ H11_
 have S14_ := Same.trans S6_ S12_
 refine sv (v := (vI .i64 ((vLastN L at_ L.length : Int) - 1))) (x_assign rfl) ?_
 refine wpList_nil (X_then (hK7_ _ _ ?_))
 clear hK7_
 refine C_seq (fun K15_ hK15_ => ?_)
 refine C_seq (fun K16_ hK16_ => C_reg ?_)
 refine sv (v := (vI .i64 ((vLastN L at_ L.length : Int) - 1))) (x_move rfl) ?_
 refine sv (v := (vB (decide ((vLastN L at_ L.length : Int) - 1 < 0)))) (x_bin rfl rfl rfl) ?_
 refine sv (v := (vB (decide ((vLastN L at_ L.length : Int) - 1 < 0)))) (x_move rfl) ?_
 rcases Bool.eq_false_or_eq_true (decide ((vLastN L at_ L.length : Int) - 1 < 0)) with c17_t | c17_f
 ·have c17_tp : (vLastN L at_ L.length : Int) - 1 < 0 := of_decide_eq_true c17_t
  have hll_ := vLastN_le L at_ L.length
  refine S_no (j := 2) (dj := 12) (b := true) rfl rfl (congrArg vB c17_t) (by decide) ?_
  refine S_no (j := 2) (dj := 12) (b := true) rfl rfl (congrArg vB c17_t) (by decide) ?_
  refine S_no (j := 2) (dj := 12) (b := true) rfl rfl (congrArg vB c17_t) (by decide) ?_
  refine S_no (j := 2) (dj := 12) (b := true) rfl rfl (congrArg vB c17_t) (by decide) ?_
  refine S_no (j := 2) (dj := 12) (b := true) rfl rfl (congrArg vB c17_t) (by decide) ?_
  refine S_list (T_pickT (v := (vB true)) (congrArg vB c17_t) rfl ?_)
  refine wpList_nil (X_then (hK16_ _ _ ?_))
  clear hK16_
  refine C_condT rfl ?_
  refine C_seq (fun K18_ hK18_ => C_reg ?_)
  refine sv (v := (vA #[(vI .i64 0), (vI .i64 0), (vI .i64 0), (vI .i64 0), (vI .i64 0), (vB false)])) (by kernel_rfl) ?_
  refine S_list0 (T_storeN (vs := [(vI .i64 0), (vI .i64 0), (vI .i64 0), (vI .i64 0), (vI .i64 0), (vB false)]) rfl rfl z66 rfl (by simp [Value.oneCell']) H11_ 1 rfl (Nat.le_of_ble_eq_true (by rfl)) ?_)
  intro w19_ S21_ H20_
  have S22_ := Same.trans S14_ S21_
  refine sv (v := (vB false)) (x_assign rfl) ?_
  refine wpList_nil (X_then (hK18_ _ _ ?_))
  clear hK18_
  refine C_ret (X_thenR ?_)
  refine R_any (v := (vT #[(vA #[(vI .i64 0), (vI .i64 0), (vI .i64 0), (vI .i64 0), (vI .i64 0), (vB false)]), (vB false)])) (run_results2 rfl ⟨_, rfl, load_resN Try.underlying66 rfl z66 rfl (vs := [(vI .i64 0), (vI .i64 0), (vI .i64 0), (vI .i64 0), (vI .i64 0), (vB false)]) (Holds.cl_cells H20_ 1 rfl 0 rfl)⟩ rfl) ?_
  have hX_ := vHold_zero c17_tp
  have H23_ : Holds w19_ (ro R :: F) := (Holds.pkF H20_ [0] 1 :)
  exact ⟨_, _, rfl, ⟨(congrArg (fun l => vT (List.toArray l)) (lcons (congrArg (fun l => vA (List.toArray l)) (lcons (congrArg (vI .i64) ((by simp [vHold, vHoldB, hX_, vZero]) : 0 = (vHold L at_).rev_Main)) (lcons (congrArg (vI .i64) ((by simp [vHold, vHoldB, hX_, vZero]) : 0 = (vHold L at_).rev_Sub)) (lcons (congrArg (vI .i64) ((by simp [vHold, vHoldB, hX_, vZero]) : 0 = (vHold L at_).created_Main)) (lcons (congrArg (vI .i64) ((by simp [vHold, vHoldB, hX_, vZero]) : 0 = (vHold L at_).created_Sub)) (lcons (congrArg (vI .i64) ((by simp [vHold, vHoldB, hX_, vZero]) : 0 = (vHold L at_).ver)) (lcons (congrArg vB ((by simp [vHold, vHoldB, hX_, vZero]) : false = ((vHold L at_).gone))) rfl))))))) (lcons (congrArg vB ((by simp [vHold, vHoldB, hX_, vZero]) : false = (vHoldB L at_))) rfl))), rfl⟩, S22_, H23_⟩
 ·have c17_fp : ¬ ((vLastN L at_ L.length : Int) - 1 < 0) := of_decide_eq_false c17_f
  have hll_ := vLastN_le L at_ L.length
  refine S_yes (j := 2) (dj := 12) (b := false) rfl rfl (congrArg vB c17_f) (T_val (v := v) (x_move rfl) ?_)
  refine S_yes (j := 2) (dj := 12) (b := false) rfl rfl (congrArg vB c17_f) (T_val (v := (vI .i64 ((vLastN L at_ L.length : Int) - 1))) (x_move rfl) ?_)
  obtain ⟨x24_, hx25_, hm26_⟩ := elem_at L (((vLastN L at_ L.length : Int) - 1).toNat) (by omega)
  refine S_yes (j := 2) (dj := 12) (b := false) rfl rfl (congrArg vB c17_f) (T_val (v := (vP (some ⟨(sb v), so v + ((((vLastN L at_ L.length : Int) - 1).toNat) * 6 + 0), none⟩))) (x_idxRS (v := v) rfl hL rfl Try.underlying23 z66 (by omega) (by omega) (by omega : _ = ((vLastN L at_ L.length : Int) - 1).toNat) rfl) ?_)
  refine S_yes (j := 2) (dj := 12) (b := false) rfl rfl (congrArg vB c17_f) (T_val (v := (vP (some ⟨(sb v), so v + ((((vLastN L at_ L.length : Int) - 1).toNat) * 6 + 5), none⟩))) (by kernel_rfl) ?_)
  refine S_yes (j := 2) (dj := 12) (b := false) rfl rfl (congrArg vB c17_f) (T_val (v := (vB x24_.gone)) (x_load1 rfl Try.underlying4 rfl (RC.cell (RS.rc hL) (Holds.ro_at H11_ 0 rfl) (j := (((vLastN L at_ L.length : Int) - 1).toNat) * 6 + 5) (u := (vB x24_.gone)) (fm_cell VR.len hx25_ (i := 5) rfl))) ?_)
  refine S_list (T_pickF (v := (vB x24_.gone)) (congrArg vB c17_f) rfl ?_)
  refine wpList_nil (X_then (hK16_ _ _ ?_))
  clear hK16_
  refine C_cond (b := x24_.gone) rfl (fun c27_t => ?_) (fun c27_f => ?_)
  ·skip
   have hll_ := vLastN_le L at_ L.length
   refine C_seq (fun K28_ hK28_ => C_reg ?_)
   refine sv (v := (vA #[(vI .i64 0), (vI .i64 0), (vI .i64 0), (vI .i64 0), (vI .i64 0), (vB false)])) (by kernel_rfl) ?_
   refine S_list0 (T_storeN (vs := [(vI .i64 0), (vI .i64 0), (vI .i64 0), (vI .i64 0), (vI .i64 0), (vB false)]) rfl rfl z66 rfl (by simp [Value.oneCell']) H11_ 1 rfl (Nat.le_of_ble_eq_true (by rfl)) ?_)
   intro w29_ S31_ H30_
   have S32_ := Same.trans S14_ S31_
   refine sv (v := (vB false)) (x_assign rfl) ?_
   refine wpList_nil (X_then (hK28_ _ _ ?_))
   clear hK28_
   refine C_ret (X_thenR ?_)
   refine R_any (v := (vT #[(vA #[(vI .i64 0), (vI .i64 0), (vI .i64 0), (vI .i64 0), (vI .i64 0), (vB false)]), (vB false)])) (run_results2 rfl ⟨_, rfl, load_resN Try.underlying66 rfl z66 rfl (vs := [(vI .i64 0), (vI .i64 0), (vI .i64 0), (vI .i64 0), (vI .i64 0), (vB false)]) (Holds.cl_cells H30_ 1 rfl 0 rfl)⟩ rfl) ?_
   have hX_ := vHold_at hx25_ c17_fp
   rw [c27_t] at hX_
   have H33_ : Holds w29_ (ro R :: F) := (Holds.pkF H30_ [0] 1 :)
   exact ⟨_, _, rfl, ⟨(congrArg (fun l => vT (List.toArray l)) (lcons (congrArg (fun l => vA (List.toArray l)) (lcons (congrArg (vI .i64) ((by simp [vHold, vHoldB, hX_, vZero]) : 0 = (vHold L at_).rev_Main)) (lcons (congrArg (vI .i64) ((by simp [vHold, vHoldB, hX_, vZero]) : 0 = (vHold L at_).rev_Sub)) (lcons (congrArg (vI .i64) ((by simp [vHold, vHoldB, hX_, vZero]) : 0 = (vHold L at_).created_Main)) (lcons (congrArg (vI .i64) ((by simp [vHold, vHoldB, hX_, vZero]) : 0 = (vHold L at_).created_Sub)) (lcons (congrArg (vI .i64) ((by simp [vHold, vHoldB, hX_, vZero]) : 0 = (vHold L at_).ver)) (lcons (congrArg vB ((by simp [vHold, vHoldB, hX_, vZero]) : false = ((vHold L at_).gone))) rfl))))))) (lcons (congrArg vB ((by simp [vHold, vHoldB, hX_, vZero]) : false = (vHoldB L at_))) rfl))), rfl⟩, S32_, H33_⟩
  ·skip
   have hll_ := vLastN_le L at_ L.length
   refine C_skip (X_then (hK15_ _ _ ?_))
   clear hK15_
   refine C_seq (fun K34_ hK34_ => C_reg ?_)
   refine sv (v := v) (x_move rfl) ?_
   refine sv (v := (vI .i64 ((vLastN L at_ L.length : Int) - 1))) (x_move rfl) ?_
   refine sv (v := (vP (some ⟨(sb v), so v + ((((vLastN L at_ L.length : Int) - 1).toNat) * 6 + 0), none⟩))) (x_idxRS (v := v) rfl hL rfl Try.underlying23 z66 (by omega) (by omega) (by omega : _ = ((vLastN L at_ L.length : Int) - 1).toNat) rfl) ?_
   refine sv (v := (vA #[(vI .i64 x24_.rev_Main), (vI .i64 x24_.rev_Sub), (vI .i64 x24_.created_Main), (vI .i64 x24_.created_Sub), (vI .i64 x24_.ver), (vB x24_.gone)])) (x_loadN (vs := [(vI .i64 x24_.rev_Main), (vI .i64 x24_.rev_Sub), (vI .i64 x24_.created_Main), (vI .i64 x24_.created_Sub), (vI .i64 x24_.ver), (vB x24_.gone)]) rfl Try.underlying66 rfl z66 rfl (RC.cells (RS.rc hL) (Holds.ro_at H11_ 0 rfl) ((((vLastN L at_ L.length : Int) - 1).toNat) * 6 + 0) (fm_cells VR.len hx25_ (i := 0) rfl))) ?_
   refine S_list0 (T_storeN (vs := [(vI .i64 x24_.rev_Main), (vI .i64 x24_.rev_Sub), (vI .i64 x24_.created_Main), (vI .i64 x24_.created_Sub), (vI .i64 x24_.ver), (vB x24_.gone)]) rfl rfl z66 rfl (by simp [Value.oneCell']) H11_ 1 rfl (Nat.le_of_ble_eq_true (by rfl)) ?_)
   intro w35_ S37_ H36_
   have S38_ := Same.trans S14_ S37_
   refine sv (v := (vB true)) (x_assign rfl) ?_
   refine wpList_nil (X_then (hK34_ _ _ ?_))
   clear hK34_
   refine C_ret ?_
   refine R_any (v := (vT #[(vA #[(vI .i64 x24_.rev_Main), (vI .i64 x24_.rev_Sub), (vI .i64 x24_.created_Main), (vI .i64 x24_.created_Sub), (vI .i64 x24_.ver), (vB x24_.gone)]), (vB true)])) (run_results2 rfl ⟨_, rfl, load_resN Try.underlying66 rfl z66 rfl (vs := [(vI .i64 x24_.rev_Main), (vI .i64 x24_.rev_Sub), (vI .i64 x24_.created_Main), (vI .i64 x24_.created_Sub), (vI .i64 x24_.ver), (vB x24_.gone)]) (Holds.cl_cells H36_ 1 rfl 0 rfl)⟩ rfl) ?_
   have hX_ := vHold_at hx25_ c17_fp
   rw [c27_f] at hX_
   have H39_ : Holds w35_ (ro R :: F) := (Holds.pkF H36_ [0] 1 :)
   exact ⟨_, _, rfl, ⟨(congrArg (fun l => vT (List.toArray l)) (lcons (congrArg (fun l => vA (List.toArray l)) (lcons (congrArg (vI .i64) ((by simp [vHold, vHoldB, hX_, vZero]) : x24_.rev_Main = (vHold L at_).rev_Main)) (lcons (congrArg (vI .i64) ((by simp [vHold, vHoldB, hX_, vZero]) : x24_.rev_Sub = (vHold L at_).rev_Sub)) (lcons (congrArg (vI .i64) ((by simp [vHold, vHoldB, hX_, vZero]) : x24_.created_Main = (vHold L at_).created_Main)) (lcons (congrArg (vI .i64) ((by simp [vHold, vHoldB, hX_, vZero]) : x24_.created_Sub = (vHold L at_).created_Sub)) (lcons (congrArg (vI .i64) ((by simp [vHold, vHoldB, hX_, vZero]) : x24_.ver = (vHold L at_).ver)) (lcons (congrArg vB ((by simp [vHold, vHoldB, hX_, vZero]) : x24_.gone = ((vHold L at_).gone))) rfl))))))) (lcons (congrArg vB ((by simp [vHold, vHoldB, hX_, vZero]) : true = (vHoldB L at_))) rfl))), rfl⟩, S38_, H39_⟩
end Go.Proofs.Ytiblemgccgbhoaa
