/- Words, and proved steps, on which the proof leans. -/
import Derived.WalkKit
import Derived.WalkSpells
import Derived.WalkLawsBesides
import Derived.KernelRfl
import Derived.IntWalk
import Derived.LoopN
import Derived.OrdersHeld
import Derived.Deep.AppendSrc
import Derived.Lib.ConvBytes
import Derived.Recover
import Derived.Defers
import Derived.ProofKit
import Derived.SizedLaws
import Derived.Carry
import Derived.Laws.StructEq
import Derived.Laws.IdiomCopy
import Derived.Maps.Keyed
import Derived.MapKept
import Derived.Lib.Bytealg
import Derived.Lib.AppendZerosOnto
import Derived.Test.YtlnihndjepjagaaGreatProg
import Derived.Lib.Overlaps
import Derived.Maps.RangeRun
import Derived.LaidEqlPtr
namespace Go.Proofs.YtlnihndjepjagaaGreat.Gw
open Go Go.RowKit

theorem cast1 {α : Sort _} {P : α → Prop} {c c' : α} (h : c = c') (x : P c) : P c' := h ▸ x
/-! ### Pieces of a heap -/
abbrev HP := Nat → Option Obj
abbrev SP := HP → Prop
def Sub (h g : HP) : Prop := ∀ b o, h b = some o → g b = some o
def Dis (h g : HP) : Prop := ∀ b, h b = none ∨ g b = none
def un (h k : HP) : HP := fun b => match h b with | some o => some o | none => k b

theorem Sub.rfl' (h : HP) : Sub h h := fun _ _ e => e
theorem Sub.trans' {a b c : HP} (h : Sub a b) (k : Sub b c) : Sub a c := fun x o e => k x o (h x o e)
theorem Sub.un_left (h k : HP) : Sub h (un h k) := fun b o e => by simp [un, e]
theorem Sub.un_right {h k : HP} (d : Dis h k) : Sub k (un h k) := fun b o e => by
  rcases d b with d | d
  · simp [un, d, e]
  · rw [d] at e; cases e
theorem Sub.un_lub {h k g : HP} (a : Sub h g) (b : Sub k g) : Sub (un h k) g := fun x o e => by
  unfold un at e
  cases hx : h x with
  | none => rw [hx] at e; exact b x o e
  | some y => rw [hx] at e; cases e; exact a x _ hx
theorem Dis.symm {h k : HP} (d : Dis h k) : Dis k h := fun b => (d b).symm
theorem Dis.sub_left {h h' k : HP} (d : Dis h k) (s : Sub h' h) : Dis h' k := fun b => by
  rcases d b with e | e
  · left
    cases hx : h' b with
    | none => rfl
    | some o => rw [s b o hx] at e; cases e
  · exact .inr e
theorem Dis.sub_right {h k k' : HP} (d : Dis h k) (s : Sub k' k) : Dis h k' := (d.symm.sub_left s).symm
theorem Dis.un_left {h k g : HP} (a : Dis h g) (b : Dis k g) : Dis (un h k) g := fun x => by
  rcases a x with e | e
  · rcases b x with e' | e'
    · left; simp [un, e, e']
    · exact .inr e'
  · exact .inr e

def Sat : List SP → HP → Prop
  | [], _ => True
  | A :: l, g => ∃ h k, Sub h g ∧ Sub k g ∧ Dis h k ∧ A h ∧ Sat l k

theorem Sat.mono {l : List SP} {g g' : HP} (s : Sub g g') (h : Sat l g) : Sat l g' := by
  cases l with
  | nil => trivial
  | cons A l => obtain ⟨h, k, a, b, d, e, f⟩ := h; exact ⟨h, k, a.trans' s, b.trans' s, d, e, f⟩
theorem Sat.swap {A B : SP} {l : List SP} {g : HP} (h : Sat (A :: B :: l) g) : Sat (B :: A :: l) g := by
  obtain ⟨h1, k1, s1, t1, d1, a1, h2, k2, s2, t2, d2, a2, r⟩ := h
  refine ⟨h2, un h1 k2, s2.trans' t1, Sub.un_lub s1 (t2.trans' t1), ?_, a2, h1, k2, Sub.un_left _ _, Sub.un_right (d1.sub_right t2), d1.sub_right t2, a1, r⟩
  exact (Dis.un_left (d1.sub_right s2) d2.symm).symm
theorem Sat.tail {A : SP} {l : List SP} {g : HP} (h : Sat (A :: l) g) : Sat l g := by
  obtain ⟨_, k, _, t, _, _, r⟩ := h
  exact r.mono t
theorem Sat.cons_map {A : SP} {l l' : List SP} (f : ∀ g, Sat l g → Sat l' g) {g : HP} (h : Sat (A :: l) g) : Sat (A :: l') g := by
  obtain ⟨h1, k, s, t, d, a, r⟩ := h
  exact ⟨h1, k, s, t, d, a, f k r⟩
theorem Sat.head_map {A B : SP} {l : List SP} (f : ∀ h, A h → B h) {g : HP} (h : Sat (A :: l) g) : Sat (B :: l) g := by
  obtain ⟨h1, k, s, t, d, a, r⟩ := h
  exact ⟨h1, k, s, t, d, f _ a, r⟩
theorem Sat.bring {l : List SP} : ∀ (i : Nat) {A : SP} {g : HP}, l[i]? = some A → Sat l g → Sat (A :: l.eraseIdx i) g := by
  induction l with
  | nil => intro i A g hi; simp at hi
  | cons B l ih =>
    intro i A g hi h
    cases i with
    | zero => simp at hi; subst hi; exact h
    | succ i =>
      have hi' : l[i]? = some A := by simpa using hi
      exact Sat.swap (Sat.cons_map (fun g' h' => ih i hi' h') h)
theorem Sat.back {l : List SP} : ∀ (i : Nat) {A : SP} {g : HP}, l[i]? = some A → Sat (A :: l.eraseIdx i) g → Sat l g := by
  induction l with
  | nil => intro i A g hi; simp at hi
  | cons B l ih =>
    intro i A g hi h
    cases i with
    | zero => simp at hi; subst hi; exact h
    | succ i =>
      have hi' : l[i]? = some A := by simpa using hi
      exact Sat.cons_map (fun g' h' => ih i hi' h') (Sat.swap h)
theorem Sat.set {l : List SP} (i : Nat) {A B : SP} (hi : l[i]? = some A) {g g' : HP} (h : Sat l g)
    (f : ∀ h k, Sub h g → Sub k g → Dis h k → A h → ∃ h', Sub h' g' ∧ Sub k g' ∧ Dis h' k ∧ B h') : Sat (l.set i B) g' := by
  obtain ⟨h1, k, s, t, d, a, r⟩ := Sat.bring i hi h
  obtain ⟨h', s', t', d', b⟩ := f h1 k s t d a
  have hl : i < l.length := by
    rcases Nat.lt_or_ge i l.length with x | x
    · exact x
    · rw [List.getElem?_eq_none x] at hi; cases hi
  refine Sat.back i (A := B) (by simp [hl]) ?_
  have he : (l.set i B).eraseIdx i = l.eraseIdx i := by
    rw [List.eraseIdx_set_eq]
  rw [he]
  exact ⟨h', k, s', t', d', b, r⟩
theorem Sat.at {l : List SP} (i : Nat) {A : SP} (hi : l[i]? = some A) {g : HP} (h : Sat l g) : ∃ h', Sub h' g ∧ A h' := by
  obtain ⟨h1, _, s, _, _, a, _⟩ := Sat.bring i hi h
  exact ⟨h1, s, a⟩
theorem Sat.append {l m : List SP} {g : HP} : Sat (l ++ m) g ↔ ∃ h k, Sub h g ∧ Sub k g ∧ Dis h k ∧ Sat l h ∧ Sat m k := by
  induction l generalizing g with
  | nil =>
    constructor
    · intro h
      exact ⟨(fun _ => none), g, (fun _ _ e => by cases e), Sub.rfl' g, (fun _ => Or.inl rfl), trivial, h⟩
    · rintro ⟨_, k, _, t, _, _, h⟩
      exact h.mono t
  | cons A l ih =>
    constructor
    · rintro ⟨h1, k1, s, t, d, a, r⟩
      obtain ⟨h2, k2, s2, t2, d2, r1, r2⟩ := ih.1 r
      refine ⟨un h1 h2, k2, Sub.un_lub s (s2.trans' t), t2.trans' t, Dis.un_left (d.sub_right t2) d2, ?_, r2⟩
      exact ⟨h1, h2, Sub.un_left _ _, Sub.un_right (d.sub_right s2), d.sub_right s2, a, r1⟩
    · rintro ⟨h, k, s, t, d, ⟨h1, h2, s1, s2, d1, a, r1⟩, r2⟩
      refine ⟨h1, un h2 k, s1.trans' s, Sub.un_lub (s2.trans' s) t, ?_, a, ih.2 ⟨h2, k, Sub.un_left _ _, Sub.un_right (d.sub_left s2), d.sub_left s2, r1, r2⟩⟩
      exact (Dis.un_left d1.symm ((d.sub_left s1).symm)).symm

/-! ### Worlds -/
def hp (w : World) : HP := fun b => w.heap[b]?
def Holds (w : World) (l : List SP) : Prop := Sat l (hp w)
structure Same (w w' : World) : Prop where
  os : w'.os = w.os
  tape : w'.tape = w.tape
  output : w'.output = w.output
theorem Same.refl (w : World) : Same w w := ⟨rfl, rfl, rfl⟩
theorem Same.trans {a b c : World} (h : Same a b) (k : Same b c) : Same a c := ⟨k.os.trans h.os, k.tape.trans h.tape, k.output.trans h.output⟩
theorem Same.alloc (w : World) (o : Obj) : Same w (w.alloc o) := ⟨rfl, rfl, rfl⟩
theorem Same.setCell (w : World) (a : Addr) (v : Value) : Same w (w.setCell a v) := ⟨rfl, rfl, rfl⟩
theorem Same.drew (w : World) : Same w w.drew := ⟨rfl, rfl, rfl⟩

def cl (b : Nat) (T : TypeId) (cs : List Value) : SP := fun h => ∃ fr : Nat × Nat, h b = some (.cells cs.toArray T fr) ∧ ∀ i, i < cs.length → ¬ (fr.1 ≤ i ∧ i < fr.2)
def ob (b : Nat) (o : Obj) : SP := fun h => h b = some o
def ro (R : HP) : SP := fun h => Sub R h
def pu (p : Prop) : SP := fun _ => p

theorem Holds.bring {w : World} {l : List SP} (h : Holds w l) (i : Nat) {A : SP} (hi : l[i]? = some A) : Holds w (A :: l.eraseIdx i) := Sat.bring i hi h
theorem Holds.tail {w : World} {A : SP} {l : List SP} (h : Holds w (A :: l)) : Holds w l := Sat.tail h
theorem Holds.drew {w : World} {l : List SP} (h : Holds w l) : Holds w.drew l := h
theorem Holds.cl_block {w : World} {l : List SP} (h : Holds w l) (i : Nat) {b : Nat} {T : TypeId} {cs : List Value} (hi : l[i]? = some (cl b T cs)) :
    ∃ fr : Nat × Nat, w.heap[b]? = some (.cells cs.toArray T fr) ∧ ∀ i, i < cs.length → ¬ (fr.1 ≤ i ∧ i < fr.2) := by
  obtain ⟨h', s, fr, e, hf⟩ := Sat.at i hi h
  exact ⟨fr, s _ _ e, hf⟩
theorem Holds.cl_cell {w : World} {l : List SP} (h : Holds w l) (i : Nat) {b : Nat} {T : TypeId} {cs : List Value} (hi : l[i]? = some (cl b T cs)) {k : Nat} {v : Value}
    (hk : cs[k]? = some v) : w.cell? ⟨b, k, none⟩ = some v := by
  obtain ⟨fr, e, _⟩ := h.cl_block i hi
  rw [cell_of_row w b k _ T fr e]
  simpa using hk
theorem Holds.cl_frozen {w : World} {l : List SP} (h : Holds w l) (i : Nat) {b : Nat} {T : TypeId} {cs : List Value} (hi : l[i]? = some (cl b T cs)) {k : Nat} (hk : k < cs.length) :
    w.frozen? ⟨b, k, none⟩ = false := by
  obtain ⟨fr, e, hf⟩ := h.cl_block i hi
  simp only [World.frozen?, e]
  have := hf k hk
  simp only [Bool.and_eq_false_iff, decide_eq_false_iff_not]
  omega
theorem Holds.ro_sub {w : World} {l : List SP} (h : Holds w l) (i : Nat) {R : HP} (hi : l[i]? = some (ro R)) : Sub R (hp w) := by
  obtain ⟨h', s, e⟩ := Sat.at i hi h
  exact Sub.trans' e s
theorem Holds.pu {w : World} {l : List SP} (h : Holds w l) (i : Nat) {p : Prop} (hi : l[i]? = some (pu p)) : p := by
  obtain ⟨h', s, e⟩ := Sat.at i hi h
  exact e
theorem Holds.ex {w : World} {α : Type} {A : α → SP} {l : List SP} (h : Holds w ((fun h => ∃ x, A x h) :: l)) : ∃ x, Holds w (A x :: l) := by
  obtain ⟨h1, k, s, t, d, ⟨x, a⟩, r⟩ := h
  exact ⟨x, h1, k, s, t, d, a, r⟩
def upb (g : HP) (b : Nat) (o : Obj) : HP := fun c => if c = b then some o else g c
theorem hp_setBlock (w w' : World) (b : Nat) (o : Obj) (hb : w'.heap[b]? = some o) (hc : ∀ c, c ≠ b → w'.heap[c]? = w.heap[c]?) : hp w' = upb (hp w) b o := by
  funext c
  by_cases h : c = b
  · subst h; simp [upb, hp, hb]
  · simp [upb, hp, h, hc c h]
theorem Sat.upb_at {l : List SP} (i : Nat) {A B : SP} (hi : l[i]? = some A) {g : HP} (h : Sat l g) {b : Nat} {o : Obj}
    (hA : ∀ h, A h → ∃ x, h b = some x) (hB : ∀ h, A h → B (upb h b o)) : Sat (l.set i B) (upb g b o) := by
  refine Sat.set i hi h fun h k s t d a => ⟨upb h b o, ?_, ?_, ?_, hB h a⟩
  · intro c x e
    unfold upb at e ⊢
    split
    · rename_i hc; rw [if_pos hc] at e; exact e
    · rename_i hc; rw [if_neg hc] at e; exact s c x e
  · intro c x e
    unfold upb
    split
    · rename_i hc
      subst hc
      obtain ⟨y, hy⟩ := hA h a
      rcases d c with z | z
      · rw [z] at hy; cases hy
      · rw [z] at e; cases e
    · exact t c x e
  · intro c
    unfold upb
    split
    · rename_i hc
      subst hc
      obtain ⟨y, hy⟩ := hA h a
      rcases d c with z | z
      · rw [z] at hy; cases hy
      · exact .inr z
    · exact d c
theorem Sat.upb_new {l : List SP} {g : HP} (h : Sat l g) {b : Nat} {o : Obj} (hb : g b = none) {B : SP} (hB : B (fun c => if c = b then some o else none)) : Sat (B :: l) (upb g b o) := by
  refine ⟨fun c => if c = b then some o else none, g, ?_, ?_, ?_, hB, h⟩
  · intro c x e
    unfold upb
    dsimp only at e
    split
    · rename_i hc; rw [if_pos hc] at e; exact e
    · rename_i hc; rw [if_neg hc] at e; cases e
  · intro c x e
    unfold upb
    split
    · rename_i hc; subst hc; rw [hb] at e; cases e
    · exact e
  · intro c
    by_cases hc : c = b
    · subst hc; exact .inr hb
    · simp [hc]

theorem Holds.setCell {w : World} {l : List SP} (h : Holds w l) (i : Nat) {b : Nat} {T : TypeId} {cs : List Value} (hi : l[i]? = some (cl b T cs)) (k : Nat) (v : Value) :
    Holds (w.setCell ⟨b, k, none⟩ v) (l.set i (cl b T (cs.set k v))) := by
  obtain ⟨fr, e, _⟩ := h.cl_block i hi
  have hw : hp (w.setCell ⟨b, k, none⟩ v) = upb (hp w) b (.cells (cs.set k v).toArray T fr) := by
    refine hp_setBlock _ _ _ _ ?_ (fun c hc => heap_setCell_other _ _ _ _ hc)
    simp only [World.setCell, Array.getElem?_modify, if_true, e, Option.map_some]
    simp
  unfold Holds
  rw [hw]
  obtain ⟨h0, s0, fr0, e0, hf0⟩ := Sat.at i hi h
  have efr : fr0 = fr := by
    have := s0 _ _ e0
    simp only [hp, e] at this
    injection this with this
    injection this with _ _ this
    exact this.symm
  refine Sat.upb_at i hi h (fun h ⟨fr', e', _⟩ => ⟨_, e'⟩) fun h ⟨fr', e', hf'⟩ => ⟨fr, by simp [upb], ?_⟩
  subst efr
  simpa using hf0
theorem Holds.alloc {w : World} {l : List SP} (h : Holds w l) (cs : Array Value) (T : TypeId) : Holds (w.alloc (.cells cs T)) (cl w.heap.size T cs.toList :: l) := by
  have hw : hp (w.alloc (.cells cs T)) = upb (hp w) w.heap.size (.cells cs T) :=
    hp_setBlock _ _ _ _ (heap_alloc_new w _) (fun c hc => by
      rcases Nat.lt_or_ge c w.heap.size with x | x
      · exact heap_alloc_old w _ x
      · have h1 : (w.alloc (.cells cs T)).heap.size ≤ c := by simp; omega
        rw [Array.getElem?_eq_none h1, Array.getElem?_eq_none x])
  unfold Holds
  rw [hw]
  exact Sat.upb_new h (by simp [hp]) ⟨(0, 0), by simp, by simp⟩
theorem Holds.allocOb {w : World} {l : List SP} (h : Holds w l) (o : Obj) : Holds (w.alloc o) (ob w.heap.size o :: l) := by
  have hw : hp (w.alloc o) = upb (hp w) w.heap.size o :=
    hp_setBlock _ _ _ _ (heap_alloc_new w _) (fun c hc => by
      rcases Nat.lt_or_ge c w.heap.size with x | x
      · exact heap_alloc_old w _ x
      · have h1 : (w.alloc o).heap.size ≤ c := by simp; omega
        rw [Array.getElem?_eq_none h1, Array.getElem?_eq_none x])
  unfold Holds
  rw [hw]
  exact Sat.upb_new h (by simp [hp]) (by simp [ob])
/-! ### Lending: a block becomes one that is only read, and is taken back -/
theorem Holds.lend {w : World} {l : List SP} {R : HP} {A : SP} (h : Holds w (ro R :: A :: l)) : ∃ h0 : HP, A h0 ∧ Dis R h0 ∧ Holds w (ro (un R h0) :: l) := by
  obtain ⟨h1, k1, s1, t1, d1, a1, h2, k2, s2, t2, d2, a2, r⟩ := h
  refine ⟨h2, a2, (d1.sub_left a1).sub_right s2, un h1 h2, k2, Sub.un_lub s1 (s2.trans' t1), t2.trans' t1, Dis.un_left (d1.sub_right t2) d2, ?_, r⟩
  exact Sub.un_lub (a1.trans' (Sub.un_left _ _)) (Sub.un_right (d1.sub_right s2))
theorem Holds.back {w : World} {l : List SP} {R h0 : HP} {A : SP} (hA : A h0) (hd : Dis R h0) (h : Holds w (ro (un R h0) :: l)) : Holds w (ro R :: A :: l) := by
  obtain ⟨h1, k1, s1, t1, d1, a1, r⟩ := h
  have sR : Sub R h1 := (Sub.un_left _ _).trans' a1
  have s0 : Sub h0 h1 := (Sub.un_right hd).trans' a1
  refine ⟨R, un h0 k1, sR.trans' s1, Sub.un_lub (s0.trans' s1) t1, ?_, Sub.rfl' R, h0, k1, Sub.un_left _ _, Sub.un_right (d1.sub_left s0), d1.sub_left s0, hA, r⟩
  exact (Dis.un_left hd.symm (d1.sub_left sR).symm).symm

/-! ### Calls -/
def Tri (P : Program) (f : FuncId) (args : Array Value) (R : HP) (pre : List SP) (Q : Value → List SP → Prop) : Prop :=
  ∀ (w : World) (F : List SP), Holds w (ro R :: (pre ++ F)) →
    Calls P f args w fun e w' => ∃ v post, e = .returned v ∧ Q v post ∧ Same w w' ∧ Holds w' (ro R :: (post ++ F))
theorem Tri.mono {P : Program} {f : FuncId} {args : Array Value} {R : HP} {pre : List SP} {Q Q' : Value → List SP → Prop} (h : Tri P f args R pre Q) (hq : ∀ v l, Q v l → Q' v l) :
    Tri P f args R pre Q' := fun w F hh => (h w F hh).mono fun _ _ ⟨v, post, e, q, s, k⟩ => ⟨v, post, e, hq _ _ q, s, k⟩

#print axioms Holds.back
end Go.Proofs.YtlnihndjepjagaaGreat.Gw
set_option linter.unusedVariables false
set_option linter.unusedSimpArgs false
namespace Go.Proofs.YtlnihndjepjagaaGreat.Gw
open Go Go.RowKit

abbrev Env := Nat → Value
def upd (e : Env) (d : Nat) (v : Value) : Env := fun t => bif Nat.beq t d then v else e t
def mkA (n : Nat) (e : Env) (ds : List Deferred) : Act := ⟨Array.ofFn (n := n) fun i => e i, ds⟩
def ev (n : Nat) (e : Env) : Operand → Value
  | .tmp t => bif Nat.blt t n then e t else undef
  | .const v => v
  | .global g => .pointer (some ⟨g, 0, none⟩)
  | .func f => .func (.func f) #[] #[]
theorem upd_same (e : Env) (d : Nat) (v : Value) : upd e d v d = v := by simp [upd]
theorem upd_ne (e : Env) {d t : Nat} (v : Value) (h : t ≠ d) : upd e d v t = e t := by
  simp only [upd]
  have : Nat.beq t d = false := by
    cases hb : Nat.beq t d with
    | false => rfl
    | true => exact absurd (Nat.eq_of_beq_eq_true hb) h
  rw [this]; rfl
theorem upd_id {e : Env} {d : Nat} {v : Value} (h : e d = v) : upd e d v = e := by
  funext t
  by_cases ht : t = d
  · subst ht; rw [upd_same, h]
  · rw [upd_ne e v ht]
theorem ch {E C : Env} {d : Nat} {v : Value} (h : E = C) (hv : E d = v) : E = upd C d v := by subst h; exact (upd_id hv).symm
theorem eval_mkA (n : Nat) (e : Env) (ds : List Deferred) : (mkA n e ds).eval = ev n e := by
  funext x
  cases x with
  | tmp t =>
    simp only [Act.eval, mkA, ev]
    by_cases h : t < n
    · have h' : Nat.blt t n = true := by simpa using h
      rw [h']
      simp [Array.getD, h]
    · have h' : Nat.blt t n = false := by
        cases hb : Nat.blt t n with
        | false => rfl
        | true => exact absurd (by simpa using hb) h
      rw [h']
      simp [Array.getD, h]
  | const v => rfl
  | global g => rfl
  | func f => rfl
theorem put_mkA (n : Nat) (e : Env) (ds : List Deferred) (d : Nat) (v : Value) : (mkA n e ds).put (some d) v = mkA n (upd e d v) ds := by
  simp only [Act.put, mkA]
  congr 1
  apply Array.ext
  · simp
  · intro i h1 h2
    simp only [Array.getElem_ofFn]
    by_cases h : d = i
    · subst h; rw [upd_same]; simp
    · rw [upd_ne _ _ (Ne.symm h), Array.getElem_setIfInBounds_ne (by simpa using h2) h, Array.getElem_ofFn]
theorem mkA_args (al : List Value) (n : Nat) (h : al.length ≤ n) :
    ({ tmps := al.toArray ++ Array.replicate (n - al.toArray.size) undef, defers := [] } : Act) = mkA n (fun t => al.getD t undef) [] := by
  unfold mkA
  congr 1
  apply Array.ext
  · simp; omega
  · intro i h1 h2
    simp only [Array.getElem_ofFn, List.getD]
    by_cases hi : i < al.length
    · rw [Array.getElem_append_left (by simpa using hi)]
      simp [hi]
    · rw [Array.getElem_append_right (by simpa using hi)]
      simp [hi]

/-! ### One operation -/
def Stp (P : Program) (n : Nat) (e : Env) (o : Oper) (w : World) (K : Value → World → Prop) : Prop :=
  (∃ v w', (execOp (ev n e) o).run P w = .ok (.value v) w' ∧ K v w') ∨
  (∃ w', (execOp (ev n e) o).run P w = .ok .skip w' ∧ K undef w') ∨
  (∃ f args w', (execOp (ev n e) o).run P w = .ok (.enter f args) w' ∧ Calls P f args w' fun r w'' => ∃ v, r = .returned v ∧ K v w'')
section
variable {P : Program} {n : Nat} {e : Env} {w : World} {K : Value → World → Prop} {Q : Exit → Act → World → Prop} {ops : Array Oper} {rest : List Oper} {ds : List Deferred}
  {d : Option Nat} {ty : TypeId} {pos : String} {af : Array Edge} {g : Option (Nat × Bool)}

theorem Stp.wp {o : Oper} {K' : Act → World → Prop} (h : Stp P n e o w fun v w' => K' ((mkA n e ds).put o.dst v) w') : o.wp P (mkA n e ds) w K' Q := by
  unfold Oper.wp
  rw [eval_mkA]
  rcases h with ⟨v, w', hr, hk⟩ | ⟨w', hr, hk⟩ | ⟨f, args, w', hr, hk⟩
  · rw [hr]; exact hk
  · rw [hr]; exact hk
  · rw [hr]
    show Calls P f args w' _
    exact hk.mono fun r w'' ⟨v, er, hv⟩ => by subst er; exact hv
theorem S_list {dd : Nat} {op : Op} (h : Stp P n e ⟨some dd, op, ty, pos, af, none⟩ w fun v w' => wpList P ops Q rest (mkA n (upd e dd v) ds) w') :
    wpList P ops Q (⟨some dd, op, ty, pos, af, none⟩ :: rest) (mkA n e ds) w :=
  wpList_plain rfl fun K' hK => Stp.wp (by
    refine Or.elim h (fun ⟨v, w', hr, hk⟩ => .inl ⟨v, w', hr, ?_⟩) fun h => h.elim (fun ⟨w', hr, hk⟩ => .inr (.inl ⟨w', hr, ?_⟩)) fun ⟨f, args, w', hr, hk⟩ => .inr (.inr ⟨f, args, w', hr, ?_⟩)
    · dsimp only; rw [put_mkA]; exact hK _ _ hk
    · dsimp only; rw [put_mkA]; exact hK _ _ hk
    · exact hk.mono fun r w'' ⟨v, er, hv⟩ => ⟨v, er, by dsimp only; rw [put_mkA]; exact hK _ _ hv⟩)
theorem S_list0 {op : Op} (h : Stp P n e ⟨none, op, ty, pos, af, none⟩ w fun _ w' => wpList P ops Q rest (mkA n e ds) w') :
    wpList P ops Q (⟨none, op, ty, pos, af, none⟩ :: rest) (mkA n e ds) w :=
  wpList_plain rfl fun K' hK => Stp.wp (by
    refine Or.elim h (fun ⟨v, w', hr, hk⟩ => .inl ⟨v, w', hr, hK _ _ hk⟩) fun h => h.elim (fun ⟨w', hr, hk⟩ => .inr (.inl ⟨w', hr, hK _ _ hk⟩)) fun ⟨f, args, w', hr, hk⟩ => .inr (.inr ⟨f, args, w', hr, ?_⟩)
    exact hk.mono fun r w'' ⟨v, er, hv⟩ => ⟨v, er, hK _ _ hv⟩)

theorem yielded_mkA {lo : List Oper} {j dj : Nat} {b : Bool} (hj : (lo[j]?).bind (·.dst) = some dj) (hn : Nat.blt dj n = true) (hb : e dj = .bool b) : yielded lo.toArray (mkA n e ds).tmps j = some b := by
  unfold yielded
  rw [List.getElem?_toArray, hj]
  have hn' : dj < n := by simpa using hn
  simp only [Option.bind_some, mkA]
  simp [hn', hb]
theorem S_yes {lo : List Oper} {dd j dj : Nat} {b : Bool} {op : Op} (hj : (lo[j]?).bind (·.dst) = some dj) (hn : Nat.blt dj n = true) (hb : e dj = .bool b)
    (h : Stp P n e ⟨some dd, op, ty, pos, af, some (j, b)⟩ w fun v w' => wpList P lo.toArray Q rest (mkA n (upd e dd v) ds) w') :
    wpList P lo.toArray Q (⟨some dd, op, ty, pos, af, some (j, b)⟩ :: rest) (mkA n e ds) w :=
  wpList_step fun K' hK => by
    rw [if_pos (by simp [Region.wanted, yielded_mkA (ds := ds) hj hn hb])]
    refine Stp.wp ?_
    refine Or.elim h (fun ⟨v, w', hr, hk⟩ => .inl ⟨v, w', hr, ?_⟩) fun h => h.elim (fun ⟨w', hr, hk⟩ => .inr (.inl ⟨w', hr, ?_⟩)) fun ⟨f, args, w', hr, hk⟩ => .inr (.inr ⟨f, args, w', hr, ?_⟩)
    · dsimp only; rw [put_mkA]; exact hK _ _ hk
    · dsimp only; rw [put_mkA]; exact hK _ _ hk
    · exact hk.mono fun r w'' ⟨v, er, hv⟩ => ⟨v, er, by dsimp only; rw [put_mkA]; exact hK _ _ hv⟩
theorem S_no {lo : List Oper} {dd j dj : Nat} {b c : Bool} {op : Op} (hj : (lo[j]?).bind (·.dst) = some dj) (hn : Nat.blt dj n = true) (hb : e dj = .bool b) (hc : b ≠ c)
    (h : wpList P lo.toArray Q rest (mkA n (upd e dd undef) ds) w) :
    wpList P lo.toArray Q (⟨some dd, op, ty, pos, af, some (j, c)⟩ :: rest) (mkA n e ds) w :=
  wpList_step fun K' hK => by
    rw [if_neg (by simp [Region.wanted, yielded_mkA (ds := ds) hj hn hb, hc])]
    dsimp only
    rw [put_mkA]
    exact hK _ _ h
/-! ### Values -/
def tin (P : Program) (t : TypeId) : Option (Nat × Nat × Option Value) := (P.info? t).map fun i => (i.size, i.bytes, i.zero)
theorem tin_info {t s b : Nat} {z : Option Value} (h : tin P t = some (s, b, z)) : ∃ i, P.info? t = some i ∧ i.size = s ∧ i.bytes = b ∧ i.zero = z := by
  unfold tin at h
  cases hi : P.info? t with
  | none => rw [hi] at h; cases h
  | some i => rw [hi] at h; simp at h; exact ⟨i, rfl, h.1, h.2.1, h.2.2⟩
theorem run_typeInfo {t : TypeId} {i : TypeInfo} (h : P.info? t = some i) : (typeInfo t).run P w = .ok i w := by
  simp [typeInfo, h]
theorem run_underlying {t : TypeId} {u : TypeDesc} (h : P.underlying t = some u) : (underlying t).run P w = .ok u w := by
  simp [underlying, h]
theorem run_sizeOf {t s b : Nat} {z : Option Value} (h : tin P t = some (s, b, z)) : (sizeOf t).run P w = .ok s w := by
  obtain ⟨i, hi, h1, _, _⟩ := tin_info h
  simp [sizeOf, run_typeInfo hi, h1]
theorem run_zeroValue {t s b : Nat} {z : Value} (h : tin P t = some (s, b, some z)) : (zeroValue t).run P w = .ok z w := by
  obtain ⟨i, hi, _, _, h3⟩ := tin_info h
  simp [zeroValue, run_typeInfo hi, h3]
def aggD : TypeDesc → Bool
  | .struct _ | .array _ _ => true
  | _ => false
theorem run_isAgg {t : TypeId} {u : TypeDesc} (h : P.underlying t = some u) : (isAgg t).run P w = .ok (aggD u) w := by
  simp only [isAgg, Sem.run_bind, run_underlying h, Result.andThen_ok]
  cases u <;> rfl

theorem T_val {o : Oper} {v : Value} (h : (execOp (ev n e) o).run P w = .ok (.value v) w) (k : K v w) : Stp P n e o w K := .inl ⟨v, w, h, k⟩
theorem sv {dd : Nat} {op : Op} {v : Value} (h : (execOp (ev n e) ⟨some dd, op, ty, pos, af, none⟩).run P w = .ok (.value v) w) (k : wpList P ops Q rest (mkA n (upd e dd v) ds) w) : wpList P ops Q (⟨some dd, op, ty, pos, af, none⟩ :: rest) (mkA n e ds) w := S_list (T_val h k)
theorem run_v (s : Sem Value) {v : Value} {w' : World} (h : s.run P w = .ok v w') : (do pure (Next.value (← s)) : Sem Next).run P w = .ok (.value v) w' := by
  simp [h]

theorem x_move {x : Operand} {v : Value} (h : ev n e x = v) : (execOp (ev n e) ⟨d, .move x, ty, pos, af, g⟩).run P w = .ok (.value v) w := by subst h; rfl
theorem x_assign {x : Operand} {v : Value} (h : ev n e x = v) : (execOp (ev n e) ⟨d, .assign x, ty, pos, af, g⟩).run P w = .ok (.value v) w := by subst h; rfl
theorem x_pick {c x y : Operand} {b : Bool} {v u : Value} (hc : ev n e c = .bool b) (hx : ev n e x = v) (hy : ev n e y = u) :
    (execOp (ev n e) ⟨d, .pick c x y, ty, pos, af, g⟩).run P w = .ok (.value (if b then v else u)) w := by
  subst hx; subst hy
  simp only [execOp, hc]
  simp [asBool]
theorem T_pickT {c x y : Operand} {v : Value} (hc : ev n e c = .bool true) (hx : ev n e x = v) (k : K v w) : Stp P n e ⟨d, .pick c x y, ty, pos, af, g⟩ w K :=
  T_val (by simpa using x_pick (P := P) (w := w) (d := d) (ty := ty) (pos := pos) (af := af) (g := g) hc hx (rfl : ev n e y = ev n e y)) k
theorem T_pickF {c x y : Operand} {v : Value} (hc : ev n e c = .bool false) (hy : ev n e y = v) (k : K v w) : Stp P n e ⟨d, .pick c x y, ty, pos, af, g⟩ w K :=
  T_val (by simpa using x_pick (P := P) (w := w) (d := d) (ty := ty) (pos := pos) (af := af) (g := g) hc (rfl : ev n e x = ev n e x) hy) k

def ibin (op : BinOp) (k : IntKind) (a b : Int) : Option Value :=
  match op with
  | .add => some (.int k (k.wrap (a + b)))
  | .sub => some (.int k (k.wrap (a - b)))
  | .mul => some (.int k (k.wrap (a * b)))
  | .quo => if b = 0 then none else some (.int k (k.wrap (a.tdiv b)))
  | .rem => if b = 0 then none else some (.int k (a.tmod b))
  | .and => some (.int k (k.wrap (BitVec.ofInt k.bits a &&& BitVec.ofInt k.bits b).toNat))
  | .or => some (.int k (k.wrap (BitVec.ofInt k.bits a ||| BitVec.ofInt k.bits b).toNat))
  | .xor => some (.int k (k.wrap (BitVec.ofInt k.bits a ^^^ BitVec.ofInt k.bits b).toNat))
  | .andNot => some (.int k (k.wrap (BitVec.ofInt k.bits a &&& ~~~BitVec.ofInt k.bits b).toNat))
  | .eql => some (.bool (decide (a = b)))
  | .neq => some (.bool (decide (a ≠ b)))
  | .lss => some (.bool (decide (a < b)))
  | .leq => some (.bool (decide (a ≤ b)))
  | .gtr => some (.bool (decide (b < a)))
  | .geq => some (.bool (decide (b ≤ a)))
  | _ => none
def iand (k : IntKind) (a b : Int) : Int := k.wrap (BitVec.ofInt k.bits a &&& BitVec.ofInt k.bits b).toNat
def ior (k : IntKind) (a b : Int) : Int := k.wrap (BitVec.ofInt k.bits a ||| BitVec.ofInt k.bits b).toNat
theorem run_eqGuard_int {op : BinOp} {t : TypeId} {x y : Operand} {k k' : IntKind} {a b : Int} : (eqGuard op t x y (.int k a) (.int k' b)).run P w = .ok () w := by
  unfold eqGuard
  cases op <;> rfl
theorem x_bin {op : BinOp} {t u : TypeId} {x y : Operand} {k : IntKind} {a b : Int} {v : Value} (hx : ev n e x = .int k a) (hy : ev n e y = .int k b) (hv : ibin op k a b = some v) :
    (execOp (ev n e) ⟨d, .binOp op t x y u, ty, pos, af, g⟩).run P w = .ok (.value v) w := by
  simp only [execOp]
  refine run_v _ ?_
  rw [hx, hy]
  simp only [Sem.run_bind, run_eqGuard_int, Result.andThen_ok]
  cases op <;> simp only [ibin, reduceCtorEq, Option.some.injEq] at hv <;>
    first
    | (subst hv; simp [binOp, Op.intArith, Op.intBits, Op.intCmp]; done)
    | (subst hv; simp only [binOp, Op.intCmp, ne_eq, not_true, if_false, Sem.run_pure]; by_cases h : a = b <;> simp [h]; done)
    | (split at hv
       · cases hv
       · rename_i hb; cases hv; simp [binOp, Op.intDiv, hb])
theorem ib_add {k : IntKind} {a b : Int} (h : k.wrap (a + b) = a + b) : ibin .add k a b = some (.int k (a + b)) := by simp [ibin, h]
theorem ib_sub {k : IntKind} {a b : Int} (h : k.wrap (a - b) = a - b) : ibin .sub k a b = some (.int k (a - b)) := by simp [ibin, h]
theorem ib_mul {k : IntKind} {a b : Int} (h : k.wrap (a * b) = a * b) : ibin .mul k a b = some (.int k (a * b)) := by simp [ibin, h]
end
theorem mkA_defers (n : Nat) (e : Env) (ds : List Deferred) : (mkA n e ds).defers = ds := rfl
attribute [irreducible] mkA
end Go.Proofs.YtlnihndjepjagaaGreat.Gw
set_option linter.unusedVariables false
set_option linter.unusedSimpArgs false
namespace Go.Proofs.YtlnihndjepjagaaGreat.Gw
open Go Go.RowKit
section
variable {P : Program} {n : Nat} {e : Env} {w : World} {K : Value → World → Prop} {Q : Exit → Act → World → Prop} {ops : Array Oper} {rest : List Oper} {ds : List Deferred}
  {d : Option Nat} {ty : TypeId} {pos : String} {af : Array Edge} {g : Option (Nat × Bool)} {l : List SP}

/-! ### Loads and stores -/
theorem add_mk (b o j : Nat) : (Addr.mk b o none).add j = ⟨b, o + j, none⟩ := by
  unfold Addr.add
  split
  · rename_i h; subst h; rfl
  · rfl
theorem run_loadAt1 {t : TypeId} {u : TypeDesc} {p : Addr} {v : Value} (hu : P.underlying t = some u) (hd : aggD u = false) (hc : w.cell? p = some v) :
    (Instr.loadAt t (.pointer (some p))).run P w = .ok v w := by
  simp only [Instr.loadAt, Instr.sureAddr, loadVar, Sem.run_bind, Sem.run_pure, Result.andThen_ok, run_isAgg hu, hd, Bool.false_eq_true, if_false, run_load, hc]
theorem run_loadAtN {t s b : Nat} {z : Option Value} {u : TypeDesc} {p : Addr} {vs : List Value} (hu : P.underlying t = some u) (hd : aggD u = true) (hz : tin P t = some (s, b, z)) (hl : vs.length = s)
    (hc : ∀ j v, vs[j]? = some v → w.cell? (p.add j) = some v) : (Instr.loadAt t (.pointer (some p))).run P w = .ok (.agg vs.toArray) w := by
  subst hl
  simp only [Instr.loadAt, Instr.sureAddr, loadVar, Sem.run_bind, Sem.run_pure, Result.andThen_ok, run_isAgg hu, hd, if_true, run_sizeOf hz, run_loadCells_list w p vs hc]
theorem Holds.cl_cells (h : Holds w l) (i : Nat) {b : Nat} {T : TypeId} {cs : List Value} (hi : l[i]? = some (cl b T cs)) (off : Nat) {vs : List Value} (hv : (cs.drop off).take vs.length = vs) :
    ∀ j v, vs[j]? = some v → w.cell? ((Addr.mk b off none).add j) = some v := by
  intro j v hj
  rw [add_mk]
  refine h.cl_cell i hi ?_
  rw [← hv] at hj
  rw [List.getElem?_take] at hj
  split at hj
  · rw [List.getElem?_drop] at hj; exact hj
  · cases hj
theorem run_storeAt1 {t s b : Nat} {z : Option Value} {p : Addr} {v u : Value} (hz : tin P t = some (1, b, z)) (hv : v.oneCell' = true) (hc : w.cell? p = some u) (hf : w.frozen? p = false) :
    (Instr.storeAt t (.pointer (some p)) v).run P w = .ok () (w.setCell p v) := by
  have hcs : v.cells = #[v] := by cases v <;> first | rfl | simp [Value.oneCell'] at hv
  have ha : p.add 0 = p := rfl
  simp only [Instr.storeAt, Instr.sureAddr, storeVar, Sem.run_bind, Sem.run_pure, Result.andThen_ok, run_sizeOf hz, hcs, storeCells, ha, run_store P w p v _ hv, hc, hf]
  simp [storeCells, run_store P w p v _ hv, hc, hf, ha]
def setCells (w : World) (b off : Nat) : List Value → World
  | [] => w
  | v :: r => setCells (w.setCell ⟨b, off, none⟩ v) b (off + 1) r
theorem Same.setCells (b : Nat) : ∀ (vs : List Value) (off : Nat) (w : World), Same w (setCells w b off vs)
  | [], _, w => Same.refl w
  | v :: r, off, w => (Same.setCell w _ v).trans (Same.setCells b r (off + 1) _)
theorem run_storeCells {b : Nat} : ∀ (vs : List Value) (off j : Nat) (w : World), (∀ v ∈ vs, v.oneCell' = true) →
    (∀ k, k < vs.length → ∃ u, w.cell? ⟨b, off + j + k, none⟩ = some u) → (∀ k, k < vs.length → w.frozen? ⟨b, off + j + k, none⟩ = false) →
    (storeCells ⟨b, off, none⟩ vs j).run P w = .ok () (setCells w b (off + j) vs)
  | [], off, j, w, _, _, _ => rfl
  | v :: r, off, j, w, h1, h2, h3 => by
    obtain ⟨u, hu⟩ := h2 0 (by simp)
    have hf := h3 0 (by simp)
    simp only [Nat.add_zero] at hu hf
    simp only [storeCells, Sem.run_bind, add_mk, run_store P w _ v _ (h1 v (by simp)), hu, hf]
    have ih := run_storeCells r off (j + 1) (w.setCell ⟨b, off + j, none⟩ v) (fun x hx => h1 x (by simp [hx]))
      (fun k hk => by
        obtain ⟨y, hy⟩ := h2 (k + 1) (by simp; omega)
        refine ⟨y, ?_⟩
        rw [World.cell?_setCell_other w _ _ v (by simp)]
        rw [show off + (j + 1) + k = off + j + (k + 1) by omega]; exact hy)
      (fun k hk => by
        have := h3 (k + 1) (by simp; omega)
        rw [World.frozen?_setCell]
        rw [show off + (j + 1) + k = off + j + (k + 1) by omega]; exact this)
    simp only [Bool.false_eq_true, if_false, Result.andThen_ok]
    rw [ih]
    rfl
theorem Holds.setCells (i : Nat) {b : Nat} {T : TypeId} : ∀ (vs : List Value) (off : Nat) (w : World) (l : List SP) (cs : List Value), Holds w l → l[i]? = some (cl b T cs) → off + vs.length ≤ cs.length →
    Holds (Gw.setCells w b off vs) (l.set i (cl b T (cs.take off ++ vs ++ cs.drop (off + vs.length))))
  | [], off, w, l, cs, h, hi, _ => by
    have : cs.take off ++ [] ++ cs.drop (off + 0) = cs := by simp
    simp only [List.length_nil]
    rw [this]
    have : l.set i (cl b T cs) = l := by
      obtain ⟨hl, he⟩ := List.getElem?_eq_some_iff.1 hi
      rw [← he]; simp
    rw [this]; exact h
  | v :: r, off, w, l, cs, h, hi, hlen => by
    have hl : i < l.length := (List.getElem?_eq_some_iff.1 hi).1
    have h1 := h.setCell i hi off v
    have h2 := Holds.setCells i (b := b) (T := T) r (off + 1) _ _ (cs.set off v) h1 (by simp [hl]) (by simp at hlen ⊢; omega)
    simp only [List.length_cons] at hlen ⊢
    rw [List.set_set] at h2
    have e : (cs.set off v).take (off + 1) ++ r ++ (cs.set off v).drop (off + 1 + r.length) = cs.take off ++ v :: r ++ cs.drop (off + (r.length + 1)) := by
      have e1 : (cs.set off v).take (off + 1) = cs.take off ++ [v] := by
        rw [List.take_succ_eq_append_getElem (by simp; omega)]
        simp [List.take_set_of_le]
      rw [e1, List.drop_set_of_lt (by omega)]
      simp [Nat.add_comm 1 r.length, Nat.add_assoc]
    rw [e] at h2
    exact h2
theorem T_store1 {t b bb T : Nat} {z : Option Value} {x y : Operand} {off : Nat} {v : Value} {cs : List Value} (hx : ev n e x = .pointer (some ⟨b, off, none⟩)) (hy : ev n e y = v) (hz : tin P t = some (1, bb, z))
    (hv : v.oneCell' = true) (h : Holds w l) (i : Nat) (hi : l[i]? = some (cl b T cs)) (hk : off < cs.length) (k : ∀ w', Same w w' → Holds w' (l.set i (cl b T (cs.set off v))) → K undef w') :
    Stp P n e ⟨d, .store t x y, ty, pos, af, g⟩ w K := by
  refine .inr (.inl ⟨w.setCell ⟨b, off, none⟩ v, ?_, k _ (Same.setCell w _ v) (h.setCell i hi off v)⟩)
  simp only [execOp]
  rw [hx, hy]
  simp only [Sem.run_bind, run_storeAt1 (s := 1) hz hv (h.cl_cell i hi (List.getElem?_eq_getElem hk)) (h.cl_frozen i hi hk), Result.andThen_ok, Sem.run_pure]
theorem T_storeN {t s b bb T : Nat} {z : Option Value} {x y : Operand} {off : Nat} {vs cs : List Value} (hx : ev n e x = .pointer (some ⟨b, off, none⟩)) (hy : ev n e y = .agg vs.toArray) (hz : tin P t = some (s, bb, z))
    (hs : vs.length = s) (hv : ∀ v ∈ vs, v.oneCell' = true) (h : Holds w l) (i : Nat) (hi : l[i]? = some (cl b T cs)) (hk : off + vs.length ≤ cs.length)
    (k : ∀ w', Same w w' → Holds w' (l.set i (cl b T (cs.take off ++ vs ++ cs.drop (off + vs.length)))) → K undef w') :
    Stp P n e ⟨d, .store t x y, ty, pos, af, g⟩ w K := by
  subst hs
  refine .inr (.inl ⟨setCells w b off vs, ?_, k _ (Same.setCells b vs off w) (Holds.setCells i vs off w l cs h hi hk)⟩)
  simp only [execOp]
  rw [hx, hy]
  have hc : (Value.agg vs.toArray).cells = vs.toArray := rfl
  have hr := run_storeCells (P := P) (b := b) vs off 0 w hv (fun k hk' => ⟨_, h.cl_cell i hi (List.getElem?_eq_getElem (by omega : off + 0 + k < cs.length))⟩) (fun k hk' => h.cl_frozen i hi (by omega))
  simp only [Nat.add_zero] at hr
  simp only [Sem.run_bind, Instr.storeAt, Instr.sureAddr, storeVar, Sem.run_pure, Result.andThen_ok, run_sizeOf hz, hc, List.size_toArray, ne_eq, not_true, if_false]
  simp [hr]

/-! ### New blocks -/
theorem T_new {o : Oper} {obj : Obj} {f : Nat → Value} (hr : (execOp (ev n e) o).run P w = .ok (.value (f w.heap.size)) (w.alloc obj)) {A : Nat → SP} (hA : ∀ l, Holds w l → Holds (w.alloc obj) (A w.heap.size :: l))
    (h : Holds w l) (k : ∀ b w', Same w w' → Holds w' (A b :: l) → K (f b) w') : Stp P n e o w K :=
  .inl ⟨_, _, hr, k _ _ (Same.alloc w obj) (hA l h)⟩
theorem T_box {t : Nat} {x : Operand} {v : Value} (hx : ev n e x = v) (h : Holds w l) (k : ∀ b w', Same w w' → Holds w' (cl b t v.cells.toList :: l) → K (.pointer (some ⟨b, 0, none⟩)) w') :
    Stp P n e ⟨d, .box t x, ty, pos, af, g⟩ w K := by
  refine T_new (obj := .cells v.cells t) (f := fun b => .pointer (some ⟨b, 0, none⟩)) ?_ (fun l h => h.alloc _ _) h k
  simp only [execOp]; rw [hx]; rfl
theorem T_alloc {t s b : Nat} {v : Value} (hz : tin P t = some (s, b, some v)) (h : Holds w l) (k : ∀ b w', Same w w' → Holds w' (cl b t v.cells.toList :: l) → K (.pointer (some ⟨b, 0, none⟩)) w') :
    Stp P n e ⟨d, .alloc t, ty, pos, af, g⟩ w K := by
  refine T_new (obj := .cells v.cells t) (f := fun b => .pointer (some ⟨b, 0, none⟩)) ?_ (fun l h => h.alloc _ _) h k
  simp only [execOp, Instr.alloc]
  refine run_v _ ?_
  simp only [Sem.run_bind, run_zeroValue hz, Result.andThen_ok]
  rfl

/-! ### Places -/
theorem run_part1 {t : TypeId} {u : TypeDesc} {cs : Array Value} {off : Nat} {v : Value} (hu : P.underlying t = some u) (hd : aggD u = false) (hv : cs[off]? = some v) : (part t cs off).run P w = .ok v w := by
  simp [part, run_isAgg hu, hd, hv]
theorem run_partN {t s b : Nat} {z : Option Value} {u : TypeDesc} {cs : Array Value} {off : Nat} (hu : P.underlying t = some u) (hd : aggD u = true) (hz : tin P t = some (s, b, z)) :
    (part t cs off).run P w = .ok (.agg (cs.extract off (off + s))) w := by
  simp [part, run_isAgg hu, hd, run_sizeOf hz]
theorem run_slice_slice {t el : TypeId} {a : Option Addr} {len cap sz bb : Nat} {z : Option Value} {lo hi : Option Value} {l h : Nat} (hu : P.underlying t = some (.slice el)) (hz : tin P el = some (sz, bb, z))
    (hb : (Instr.sliceBounds true len cap lo hi none).run P w = .ok (l, h, cap) w) :
    (Instr.sliceAt t (.slice a len cap) lo hi none).run P w = .ok (.slice (if cap = l then a else a.map (·.add (l * sz))) (h - l) (cap - l)) w := by
  simp [Instr.sliceAt, run_underlying hu, Instr.slice, hb, run_sizeOf hz]
theorem run_bounds {isS : Bool} {len cap : Nat} {lo hi : Option Value} {l h : Nat} (hh : (match hi with | none => h = len | some v => ∃ k i, v = .int k i ∧ 0 ≤ i ∧ i ≤ cap ∧ i.toNat = h))
    (hl : (match lo with | none => l = 0 | some v => ∃ k i, v = .int k i ∧ 0 ≤ i ∧ i ≤ h ∧ i.toNat = l)) : (Instr.sliceBounds isS len cap lo hi none).run P w = .ok (l, h, cap) w := by
  unfold Instr.sliceBounds
  cases hi with
  | none =>
    dsimp only at hh; subst hh
    cases lo with
    | none => dsimp only at hl; subst hl; rfl
    | some v =>
      obtain ⟨k, i, rfl, h0, h1, rfl⟩ := hl
      simp [Instr.sliceBound, asIntOf, h0, h1]
  | some u =>
    obtain ⟨k', i', rfl, h0', h1', rfl⟩ := hh
    cases lo with
    | none => dsimp only at hl; subst hl; simp [Instr.sliceBound, asIntOf, h0', h1']
    | some v =>
      obtain ⟨k, i, rfl, h0, h1, rfl⟩ := hl
      have h2 : i ≤ max i' 0 := by omega
      simp [Instr.sliceBound, asIntOf, h0, h0', h1', h2]
theorem zeros_eq (zc : Array Value) (c : Nat) : ((Array.range (c * zc.size)).map (zc[· % zc.size]!)).toList = (List.replicate c zc.toList).flatten := by
  simp only [Array.toList_map, Array.toList_range]
  induction c with
  | zero => simp
  | succ c ih =>
    rw [Nat.add_mul, Nat.one_mul, List.range_add, List.map_append, ih, List.replicate_succ', List.flatten_append]
    congr 1
    simp only [List.map_map, List.flatten_cons, List.flatten_nil, List.append_nil]
    apply List.ext_getElem
    · simp
    · intro i h1 h2
      simp only [List.length_map, List.length_range] at h1
      simp [Nat.add_mod, Nat.mod_eq_of_lt h1, h1]
theorem T_makeSlice {t el : TypeId} {x y : Operand} {len cap sz bb : Nat} {z : Value} {k1 k2 : IntKind} {il ic : Int} (hx : ev n e x = .int k1 il) (hy : ev n e y = .int k2 ic) (hu : P.underlying t = some (.slice el))
    (hz : tin P el = some (sz, bb, some z)) (hzs : z.cells.size = sz) (hil : il = len) (hic : ic = cap) (hle : len ≤ cap) (hb : bb * cap ≤ 2 ^ 48) (hc : cap ≤ 2 ^ 48) (h : Holds w l)
    (k : ∀ b w', Same w w' → Holds w' (cl b el ((List.replicate cap z.cells.toList).flatten) :: l) → K (.slice (some ⟨b, 0, none⟩) len cap) w') : Stp P n e ⟨d, .makeSlice t x y, ty, pos, af, g⟩ w K := by
  subst hil; subst hic
  have hcells : ((Array.range (cap * sz)).map (z.cells[· % z.cells.size]!)).toList = (List.replicate cap z.cells.toList).flatten := by
    subst hzs
    exact zeros_eq z.cells cap
  refine T_new (obj := .cells ((Array.range (cap * sz)).map (z.cells[· % z.cells.size]!)) el) (f := fun b => .slice (some ⟨b, 0, none⟩) len cap) (A := fun b => cl b el ((List.replicate cap z.cells.toList).flatten)) ?_
    (fun l h => by have := h.alloc ((Array.range (cap * sz)).map (z.cells[· % z.cells.size]!)) el; rw [hcells] at this; exact this) h k
  simp only [execOp]
  rw [hx, hy]
  refine run_v _ ?_
  obtain ⟨i, hi, h1, h2, h3⟩ := tin_info hz
  subst h2
  have w1 : IntKind.i64.wrap (len : Int) = len := IntWalk.i64_in _ (by omega)
  have w2 : IntKind.i64.wrap (cap : Int) = cap := IntWalk.i64_in _ (by omega)
  have c1 : ¬ ((i.bytes : Int) * cap > 2 ^ 48) := by
    have : ((i.bytes * cap : Nat) : Int) ≤ ((2 ^ 48 : Nat) : Int) := Int.ofNat_le.2 hb
    simpa using this
  have c2 : ¬ ((cap : Int) < 0) := by omega
  have c3 : ¬ ((len : Int) < 0) := by omega
  have c4 : ¬ ((len : Int) > cap) := by omega
  simp only [Instr.makeSlice, Sem.run_bind, run_underlying hu, Result.andThen_ok, asInt, asIntOf, Sem.run_pure, run_typeInfo hi, w1, w2, c1, c2, c3, c4, decide_false, Bool.or_false, Bool.false_eq_true, if_false,
    run_askRoom, run_sizeOf hz]
  simp only [Int.toNat_natCast]
  by_cases h0 : cap * sz = 0
  · have e0 : ∀ f : Nat → Value, (Array.range 0).map f = #[] := fun f => by simp
    simp [h0, newRow, e0]
  · simp [h0, run_zeroValue hz, newRow]
theorem T_makeSlice1 {t el : TypeId} {x y : Operand} {len cap bb : Nat} {z : Value} {k1 k2 : IntKind} {il ic : Int} (hx : ev n e x = .int k1 il) (hy : ev n e y = .int k2 ic) (hu : P.underlying t = some (.slice el))
    (hz : tin P el = some (1, bb, some z)) (hv : z.oneCell' = true) (hil : il = len) (hic : ic = cap) (hle : len ≤ cap) (hb : bb * cap ≤ 2 ^ 48) (hc : cap ≤ 2 ^ 48) (h : Holds w l)
    (k : ∀ b w', Same w w' → Holds w' (cl b el (List.replicate cap z) :: l) → K (.slice (some ⟨b, 0, none⟩) len cap) w') : Stp P n e ⟨d, .makeSlice t x y, ty, pos, af, g⟩ w K := by
  have hcs : z.cells = #[z] := by cases z <;> first | rfl | simp [Value.oneCell'] at hv
  refine T_makeSlice hx hy hu hz (by rw [hcs]; rfl) hil hic hle hb hc h ?_
  have e1 : (List.replicate cap z.cells.toList).flatten = List.replicate cap z := by
    rw [hcs]
    induction cap with
    | zero => rfl
    | succ c ih => simp [List.replicate_succ] at ih ⊢
  rw [e1]
  exact k
end
end Go.Proofs.YtlnihndjepjagaaGreat.Gw
set_option linter.unusedVariables false
set_option linter.unusedSimpArgs false
namespace Go.Proofs.YtlnihndjepjagaaGreat.Gw
open Go Go.RowKit
section
variable {P : Program} {n : Nat} {e : Env} {w : World} {K : Value → World → Prop} {Q : Exit → Act → World → Prop} {ops : Array Oper} {rest : List Oper} {ds : List Deferred}
  {d : Option Nat} {ty : TypeId} {pos : String} {af : Array Edge} {g : Option (Nat × Bool)} {l : List SP}

/-! ### Code -/
theorem C_reg {id : Nat} {lo : List Oper} (h : wpList P lo.toArray Q lo (mkA n e ds) w) : (Code.region id lo.toArray false).wp P Q (mkA n e ds) w := wp_region_lit h
theorem C_seq {x y : Code} (h : ∀ K : Act → World → Prop, (∀ a w, y.wp P Q a w → K a w) → x.wp P (Exit.then K Q) (mkA n e ds) w) : (Code.seq x y).wp P Q (mkA n e ds) w := wp_seq (h _ fun _ _ h => h)
theorem C_block {id : Nat} {c : Code} (h : c.wp P (Exit.inBlock id Q) (mkA n e ds) w) : (Code.block id c).wp P Q (mkA n e ds) w := wp_block h
theorem C_skip (h : Q .normal (mkA n e ds) w) : Code.skip.wp P Q (mkA n e ds) w := wp_skip h
theorem C_exit {id : Nat} (h : Q (.exit id) (mkA n e ds) w) : (Code.exit id).wp P Q (mkA n e ds) w := wp_exit h
theorem C_ret (h : Q .ret (mkA n e ds) w) : Code.ret.wp P Q (mkA n e ds) w := wp_ret h
theorem C_cond {c : Operand} {x y : Code} {b : Bool} (hc : ev n e c = .bool b) (h1 : b = true → x.wp P Q (mkA n e ds) w) (h2 : b = false → y.wp P Q (mkA n e ds) w) : (Code.cond c x y).wp P Q (mkA n e ds) w :=
  wp_cond_split (t := b) (by rw [eval_mkA]; exact hc) h1 h2
theorem C_condT {c : Operand} {x y : Code} (hc : ev n e c = .bool true) (h1 : x.wp P Q (mkA n e ds) w) : (Code.cond c x y).wp P Q (mkA n e ds) w := C_cond hc (fun _ => h1) (fun h => by cases h)
theorem C_condF {c : Operand} {x y : Code} (hc : ev n e c = .bool false) (h1 : y.wp P Q (mkA n e ds) w) : (Code.cond c x y).wp P Q (mkA n e ds) w := C_cond hc (fun h => by cases h) (fun _ => h1)
theorem C_cut {x y : Code} (J : Act → World → Prop) (h : x.wp P (Exit.then J Q) (mkA n e ds) w) (k : ∀ a w', J a w' → y.wp P Q a w') : (Code.seq x y).wp P Q (mkA n e ds) w :=
  wp_seq (wp_mono h fun ex a w' hq => by cases ex <;> first | exact k _ _ hq | exact hq)
theorem X_then {J : Act → World → Prop} {a : Act} (h : J a w) : Exit.then J Q .normal a w := h
theorem X_thenX {J : Act → World → Prop} {a : Act} {i : Nat} (h : Q (.exit i) a w) : Exit.then J Q (.exit i) a w := h
theorem X_thenR {J : Act → World → Prop} {a : Act} (h : Q .ret a w) : Exit.then J Q .ret a w := h
theorem X_blkN {a : Act} {id : Nat} (h : Q .normal a w) : Exit.inBlock id Q .normal a w := h
theorem X_blkR {a : Act} {id : Nat} (h : Q .ret a w) : Exit.inBlock id Q .ret a w := h
theorem X_blkHit {a : Act} {id : Nat} (h : Q .normal a w) : Exit.inBlock id Q (.exit id) a w := by simp only [Exit.inBlock, if_true]; exact h
theorem X_blkMiss {a : Act} {id i : Nat} (hn : Nat.beq i id = false) (h : Q (.exit i) a w) : Exit.inBlock id Q (.exit i) a w := by
  have : ¬ i = id := fun he => by subst he; simp at hn
  simp only [Exit.inBlock, this, if_false]; exact h
theorem C_loop {γ : Type} {c : Code} (I : γ → Act → World → Prop) (μ : γ → Nat) (x0 : γ) (h0 : I x0 (mkA n e ds) w)
    (round : ∀ x a w, I x a w → c.wp P (Exit.then (fun a' w' => ∃ x', I x' a' w' ∧ μ x' < μ x) Q) a w) : (Code.loop c).wp P Q (mkA n e ds) w := by
  have key : ∀ (m : Nat) (x : γ) (a : Act) (w : World), μ x = m → I x a w → ∀ (b : Frame) (k : List Item) (cs : List Frame),
      ∃ ex a' w', Q ex a' w' ∧ Arrives P (lone (b.at a (.code c :: .inLoop c :: k)) cs w) b k cs ex a' w' := by
    intro m
    induction m using Nat.strongRecOn with
    | _ m ih =>
      intro x a w hm hI b k cs
      obtain ⟨ex, a₁, w₁, hq, harr⟩ := round x a w hI b (.inLoop c :: k) cs
      cases ex with
      | normal =>
        obtain ⟨x', hI₁, hlt⟩ := hq
        obtain ⟨e₂, a₂, w₂, hq₂, harr₂⟩ := ih (μ x') (hm ▸ hlt) x' a₁ w₁ rfl hI₁ b k cs
        exact ⟨e₂, a₂, w₂, hq₂, .of_steps (Steps.trans harr (.one step_inLoop)) harr₂⟩
      | exit id => exact ⟨_, a₁, w₁, hq, .pass (x := .inLoop c) rfl (fun _ _ => .inl (by simp)) harr⟩
      | goto l => exact ⟨_, a₁, w₁, hq, .pass (x := .inLoop c) rfl (fun _ _ => .inl (by simp)) harr⟩
      | ret => exact ⟨_, a₁, w₁, hq, .pass (x := .inLoop c) rfl (fun _ _ => .inl (by simp)) harr⟩
      | panic ch => exact ⟨_, a₁, w₁, hq, .pass (x := .inLoop c) rfl (fun _ _ => .inl (by simp)) harr⟩
      | outgrown => exact ⟨_, a₁, w₁, hq, .pass (x := .inLoop c) rfl (fun _ _ => .inl (by simp)) harr⟩
  intro b k cs
  obtain ⟨ex, a', w', hq, harr⟩ := key _ x0 _ w rfl h0 b k cs
  exact ⟨ex, a', w', hq, .of_steps (.one step_loop) harr⟩

theorem C_loopN {c : Code} (m : Nat) (h : Code.rounds P c Q m (mkA n e ds) w) : (Code.loop c).wp P Q (mkA n e ds) w := wp_loop_rounds m h
theorem C_rounds {c : Code} {m : Nat} (h : ∀ K : Act → World → Prop, (∀ a w, Code.rounds P c Q m a w → K a w) → c.wp P (Exit.then K Q) (mkA n e ds) w) : Code.rounds P c Q (m + 1) (mkA n e ds) w := h _ fun _ _ h => h

/-! ### Calls -/
def callable (P : Program) (f : FuncId) : Bool := match P.funcs[f]? with
  | some fn => fn.body.isSome && fn.name != "runtime.NumGoroutine"
  | none => false
theorem run_callFunc {f : FuncId} {args : Array Value} (h : callable P f = true) : (callFunc f args).run P w = .ok (.enter f args) w := by
  unfold callable at h
  split at h
  · rename_i fn hf
    simp only [Bool.and_eq_true, bne_iff_ne, ne_eq] at h
    obtain ⟨h1, h2⟩ := h
    have h3 : ¬ fn.body = none := fun hb => by rw [hb] at h1; cases h1
    simp [callFunc, hf, h3, h2]
  · cases h
theorem T_callW {f : FuncId} {x : Operand} {lo : List Operand} {cl al : List Value} {at_ : Array TypeId} (hx : ev n e x = .func (.func f) #[] cl.toArray) (ha : lo.map (ev n e) ++ cl = al)
    (hc : callable P f = true) (h : Calls P f al.toArray w fun r w' => ∃ v, r = .returned v ∧ K v w') : Stp P n e ⟨d, .call { callee := .value x, args := lo.toArray, argTypes := at_ }, ty, pos, af, g⟩ w K := by
  subst ha
  refine .inr (.inr ⟨f, _, w, ?_, h⟩)
  simp only [execOp, resolve, hx, Deferred.ofValue, Sem.run_bind, Sem.run_pure, Result.andThen_ok, invoke]
  simp [run_callFunc hc]
theorem T_call {f : FuncId} {x : Operand} {lo : List Operand} {cl al : List Value} {at_ : Array TypeId} {R : HP} {pre F : List SP} {Qc : Value → List SP → Prop}
    (hx : ev n e x = .func (.func f) #[] cl.toArray) (ha : lo.map (ev n e) ++ cl = al) (hc : callable P f = true) (ht : Tri P f al.toArray R pre Qc) (h : Holds w (ro R :: (pre ++ F)))
    (k : ∀ v post w', Qc v post → Same w w' → Holds w' (ro R :: (post ++ F)) → K v w') : Stp P n e ⟨d, .call { callee := .value x, args := lo.toArray, argTypes := at_ }, ty, pos, af, g⟩ w K :=
  T_callW hx ha hc ((ht w F h).mono fun r w' ⟨v, post, er, q, s, hh⟩ => ⟨v, er, k v post w' q s hh⟩)
theorem Calls.into {f : FuncId} {fn : Func} {c : Code} {args : Array Value} {al : List Value} {R : Ending → World → Prop} (hf : P.funcs[f]? = some fn) (hb : fn.body = some c) (hn : fn.ntmps = n) (ha : args = al.toArray)
    (hl : Nat.ble al.length n = true) (h : c.wp P (bodyPost P fn R) (mkA n (fun t => al.getD t undef) []) w) : Calls P f args w R := by
  subst ha; subst hn
  refine calls_of_wp hf hb ?_
  rw [mkA_args al _ (by simpa using hl)]
  exact h
theorem Tri.into {f : FuncId} {fn : Func} {c : Code} {args : Array Value} {al : List Value} {R : HP} {pre : List SP} {Qc : Value → List SP → Prop} (hf : P.funcs[f]? = some fn) (hb : fn.body = some c) (hn : fn.ntmps = n)
    (ha : args = al.toArray) (hl : Nat.ble al.length n = true)
    (h : ∀ w F, Holds w (ro R :: (pre ++ F)) → c.wp P (bodyPost P fn fun r w' => ∃ v post, r = .returned v ∧ Qc v post ∧ Same w w' ∧ Holds w' (ro R :: (post ++ F))) (mkA n (fun t => al.getD t undef) []) w) :
    Tri P f args R pre Qc := fun w F hh => Calls.into hf hb hn ha hl (h w F hh)

/-! ### Results -/
theorem ev_getD (t : Nat) : (mkA n e ds).tmps.getD t undef = ev n e (.tmp t) := congrFun (eval_mkA n e ds) (.tmp t)
theorem ev_getO (t : Nat) : (mkA n e ds).tmps[t]?.getD undef = ev n e (.tmp t) := by
  rw [← ev_getD (ds := ds)]; simp
theorem R_0 {fn : Func} {R : Ending → World → Prop} (hr : fn.results = #[]) (h : R (.returned (.tuple #[])) w) : bodyPost P fn R .normal (mkA n e []) w :=
  bodyPost_end (results_none hr _ _ _) (mkA_defers ..) h
theorem R_0r {fn : Func} {R : Ending → World → Prop} (hr : fn.results = #[]) (h : R (.returned (.tuple #[])) w) : bodyPost P fn R .ret (mkA n e []) w :=
  bodyPost_ret (results_none hr _ _ _) (mkA_defers ..) h
theorem R_any {fn : Func} {R : Ending → World → Prop} {v : Value} (hr : (results fn (mkA n e []).tmps).run P w = .ok v w) (h : R (.returned v) w) : bodyPost P fn R .ret (mkA n e []) w :=
  bodyPost_ret hr (mkA_defers ..) h
def resRun (P : Program) (n : Nat) (e : Env) (w : World) : ResultVar → Value → Prop
  | .tmp t, v => ev n e (.tmp t) = v
  | .cell a t, v => ∃ p, ev n e (.tmp a) = .pointer (some p) ∧ (loadVar t p).run P w = .ok v w
theorem run_results1 {fn : Func} {r : ResultVar} {v : Value} (hr : fn.results = #[r]) (h : resRun P n e w r v) : (results fn (mkA n e ds).tmps).run P w = .ok v w := by
  cases r with
  | tmp t => rw [results_tmp hr, ev_getD]; simp only [resRun] at h; rw [h]
  | cell a t =>
    obtain ⟨p, h1, h2⟩ := h
    simp [results, hr, ev_getO, h1, asAddr, h2]
theorem run_results2 {fn : Func} {r s : ResultVar} {v u : Value} (hr : fn.results = #[r, s]) (h : resRun P n e w r v) (h' : resRun P n e w s u) : (results fn (mkA n e ds).tmps).run P w = .ok (.tuple #[v, u]) w := by
  cases r <;> cases s <;> simp only [resRun] at h h'
  · simp [results, hr, ev_getO, h, h']
  · obtain ⟨p, h1, h2⟩ := h'; simp [results, hr, ev_getO, h, h1, asAddr, h2]
  · obtain ⟨p, h1, h2⟩ := h; simp [results, hr, ev_getO, h', h1, asAddr, h2]
  · obtain ⟨p, h1, h2⟩ := h; obtain ⟨p', h1', h2'⟩ := h'; simp [results, hr, ev_getO, h1, h1', asAddr, h2, h2']
theorem run_results3 {fn : Func} {r s t : ResultVar} {v u x : Value} (hr : fn.results = #[r, s, t]) (h : resRun P n e w r v) (h' : resRun P n e w s u) (h'' : resRun P n e w t x) :
    (results fn (mkA n e ds).tmps).run P w = .ok (.tuple #[v, u, x]) w := by
  cases r <;> cases s <;> cases t <;> simp only [resRun] at h h' h'' <;> (try obtain ⟨p, h1, h2⟩ := h) <;> (try obtain ⟨p', h1', h2'⟩ := h') <;> (try obtain ⟨p'', h1'', h2''⟩ := h'') <;>
    simp_all [results, ev_getO, asAddr]
theorem load_resN {t s b : Nat} {z : Option Value} {u : TypeDesc} {p : Addr} {vs : List Value} (hu : P.underlying t = some u) (hd : aggD u = true) (hz : tin P t = some (s, b, z)) (hl : vs.length = s)
    (hc : ∀ j v, vs[j]? = some v → w.cell? (p.add j) = some v) : (loadVar t p).run P w = .ok (.agg vs.toArray) w := by
  have := run_loadAtN (P := P) (w := w) hu hd hz hl hc
  simpa [Instr.loadAt, Instr.sureAddr] using this
end
end Go.Proofs.YtlnihndjepjagaaGreat.Gw
set_option linter.unusedVariables false
set_option linter.unusedSimpArgs false
namespace Go.Proofs.YtlnihndjepjagaaGreat.Gw
open Go Go.RowKit
section
variable {P : Program} {n : Nat} {e : Env} {w : World} {K : Value → World → Prop} {Q : Exit → Act → World → Prop} {ops : Array Oper} {rest : List Oper} {ds : List Deferred}
  {d : Option Nat} {ty : TypeId} {pos : String} {af : Array Edge} {g : Option (Nat × Bool)} {l : List SP}
theorem x_cast {o : Oper} {v v' : Value} (h : (execOp (ev n e) o).run P w = .ok (.value v) w) (hv : v = v') : (execOp (ev n e) o).run P w = .ok (.value v') w := hv ▸ h
theorem x_load1 {t : TypeId} {u : TypeDesc} {x : Operand} {p : Addr} {v : Value} (hx : ev n e x = .pointer (some p)) (hu : P.underlying t = some u) (hd : aggD u = false) (hc : w.cell? p = some v) :
    (execOp (ev n e) ⟨d, .load t x, ty, pos, af, g⟩).run P w = .ok (.value v) w := by simp only [execOp]; rw [hx]; exact run_v _ (run_loadAt1 hu hd hc)
theorem x_loadN {t s b : Nat} {z : Option Value} {u : TypeDesc} {x : Operand} {p : Addr} {vs : List Value} (hx : ev n e x = .pointer (some p)) (hu : P.underlying t = some u) (hd : aggD u = true)
    (hz : tin P t = some (s, b, z)) (hl : vs.length = s) (hc : ∀ j v, vs[j]? = some v → w.cell? (p.add j) = some v) : (execOp (ev n e) ⟨d, .load t x, ty, pos, af, g⟩).run P w = .ok (.value (.agg vs.toArray)) w := by
  simp only [execOp]; rw [hx]; exact run_v _ (run_loadAtN hu hd hz hl hc)
theorem x_indexAddr {t el : TypeId} {x y : Operand} {b off len cap i sz bb : Nat} {z : Option Value} {k' : IntKind} {p : Addr} {ii : Int} (hx : ev n e x = .slice (some ⟨b, off, none⟩) len cap) (hy : ev n e y = .int k' ii)
    (hu : P.underlying t = some (.slice el)) (hz : tin P el = some (sz, bb, z)) (h0 : 0 ≤ ii) (hi : ii < len) (hn : ii.toNat = i) (hp : (⟨b, off + i * sz, none⟩ : Addr) = p) :
    (execOp (ev n e) ⟨d, .indexAddr t x y, ty, pos, af, g⟩).run P w = .ok (.value (.pointer (some p))) w := by
  subst hp; subst hn
  simp only [execOp]
  rw [hx, hy]
  refine run_v _ ?_
  simp [Instr.indexAt, asIntOf, run_underlying hu, h0, hi, run_sizeOf hz, add_mk]
theorem x_slice {t el : TypeId} {x : Operand} {lo hi : Option Operand} {a : Option Addr} {len cap sz bb l h : Nat} {z : Option Value} {v : Value} (hx : ev n e x = .slice a len cap) (hu : P.underlying t = some (.slice el))
    (hz : tin P el = some (sz, bb, z)) (hh : (match hi.map (ev n e) with | none => h = len | some v => ∃ k i, v = .int k i ∧ 0 ≤ i ∧ i ≤ cap ∧ i.toNat = h))
    (hl : (match lo.map (ev n e) with | none => l = 0 | some v => ∃ k i, v = .int k i ∧ 0 ≤ i ∧ i ≤ h ∧ i.toNat = l)) (hv : Value.slice (if cap = l then a else a.map (·.add (l * sz))) (h - l) (cap - l) = v) :
    (execOp (ev n e) ⟨d, .slice t x lo hi none, ty, pos, af, g⟩).run P w = .ok (.value v) w := by
  subst hv
  simp only [execOp]
  rw [hx]
  refine run_v _ ?_
  exact run_slice_slice hu hz (run_bounds hh hl)
theorem x_convI {s t : TypeId} {x : Operand} {k k' : IntKind} {a b : Int} {u : TypeDesc} (hx : ev n e x = .int k a) (hs : P.underlying s = some u) (ht : P.underlying t = some (.int k')) (hv : k'.wrap a = b) :
    (execOp (ev n e) ⟨d, .convert s t x, ty, pos, af, g⟩).run P w = .ok (.value (.int k' b)) w := by
  subst hv
  simp only [execOp]
  rw [hx]
  refine run_v _ ?_
  simp only [convert, Sem.run_bind, run_underlying hs, run_underlying ht, Result.andThen_ok]
  cases u <;> simp [Conv.intToInt]
theorem x_lenS {argO : Operand} {t : TypeId} {el : TypeId} {a : Option Addr} {len cap : Nat} (hx : ev n e argO = .slice a len cap) (hu : P.underlying t = some (.slice el)) :
    (execOp (ev n e) ⟨d, .call { callee := .builtin .len, args := #[argO], argTypes := #[t] }, ty, pos, af, g⟩).run P w = .ok (.value (.int .i64 len)) w := by
  simp only [execOp, resolve, Sem.run_bind, Sem.run_pure, Result.andThen_ok, invoke, builtin]
  simp [hx, Builtin.len_, run_underlying hu, goInt]
theorem x_lenT {argO : Operand} {t : TypeId} {s : ByteArray} (hx : ev n e argO = .string s) (hu : P.underlying t = some .string) :
    (execOp (ev n e) ⟨d, .call { callee := .builtin .len, args := #[argO], argTypes := #[t] }, ty, pos, af, g⟩).run P w = .ok (.value (.int .i64 s.size)) w := by
  simp only [execOp, resolve, Sem.run_bind, Sem.run_pure, Result.andThen_ok, invoke, builtin]
  simp [hx, Builtin.len_, run_underlying hu, goInt]
theorem x_shr {t u : TypeId} {x y : Operand} {k k' : IntKind} {a b c : Int} (hx : ev n e x = .int k a) (hy : ev n e y = .int k' b) (hb : 0 ≤ b) (hv : a.fdiv (2 ^ (min b.toNat k.bits)) = c) :
    (execOp (ev n e) ⟨d, .binOp .shr t x y u, ty, pos, af, g⟩).run P w = .ok (.value (.int k c)) w := by
  subst hv
  simp only [execOp]
  rw [hx, hy]
  refine run_v _ ?_
  have : ¬ b < 0 := by omega
  simp [run_eqGuard_int, binOp, Op.shift, this]
theorem x_shl {t u : TypeId} {x y : Operand} {k k' : IntKind} {a b c : Int} (hx : ev n e x = .int k a) (hy : ev n e y = .int k' b) (hb : 0 ≤ b) (hv : k.wrap (a * 2 ^ (min b.toNat k.bits)) = c) :
    (execOp (ev n e) ⟨d, .binOp .shl t x y u, ty, pos, af, g⟩).run P w = .ok (.value (.int k c)) w := by
  subst hv
  simp only [execOp]
  rw [hx, hy]
  refine run_v _ ?_
  have : ¬ b < 0 := by omega
  simp [run_eqGuard_int, binOp, Op.shift, this]
theorem x_not {x : Operand} {t : TypeId} {b : Bool} (hx : ev n e x = .bool b) : (execOp (ev n e) ⟨d, .unOp .not t x, ty, pos, af, g⟩).run P w = .ok (.value (.bool !b)) w := by
  simp only [execOp]; rw [hx]; rfl
theorem x_pickT {c x y : Operand} {v : Value} (hc : ev n e c = .bool true) (hx : ev n e x = v) : (execOp (ev n e) ⟨d, .pick c x y, ty, pos, af, g⟩).run P w = .ok (.value v) w := by
  simpa using x_pick (P := P) (w := w) (d := d) (ty := ty) (pos := pos) (af := af) (g := g) hc hx (rfl : ev n e y = ev n e y)
theorem x_pickF {c x y : Operand} {v : Value} (hc : ev n e c = .bool false) (hy : ev n e y = v) : (execOp (ev n e) ⟨d, .pick c x y, ty, pos, af, g⟩).run P w = .ok (.value v) w := by
  simpa using x_pick (P := P) (w := w) (d := d) (ty := ty) (pos := pos) (af := af) (g := g) hc (rfl : ev n e x = ev n e x) hy
theorem x_str {op : BinOp} {t u : TypeId} {x y : Operand} {a b : ByteArray} {v : Value} (hx : ev n e x = .string a) (hy : ev n e y = .string b) (hv : (Op.stringOp op a b).run P w = .ok v w) (ho : op ≠ .shl ∧ op ≠ .shr) :
    (execOp (ev n e) ⟨d, .binOp op t x y u, ty, pos, af, g⟩).run P w = .ok (.value v) w := by
  simp only [execOp]
  rw [hx, hy]
  refine run_v _ ?_
  have h1 : (eqGuard op t x y (.string a) (.string b)).run P w = .ok () w := by unfold eqGuard; cases op <;> rfl
  simp only [Sem.run_bind, h1, Result.andThen_ok]
  cases op <;> first | exact hv | simp at ho

/-! ### What a block of ours, or one that is only read, holds -/
def Rd (b : Nat) (cs : List Value) (w : World) : Prop := ∀ k v, cs[k]? = some v → w.cell? ⟨b, k, none⟩ = some v
theorem Rd.cells {b : Nat} {cs : List Value} (h : Rd b cs w) (off : Nat) {vs : List Value} (hv : (cs.drop off).take vs.length = vs) : ∀ j v, vs[j]? = some v → w.cell? ((Addr.mk b off none).add j) = some v := by
  intro j v hj
  rw [add_mk]
  refine h _ _ ?_
  rw [← hv] at hj
  rw [List.getElem?_take] at hj
  split at hj
  · rw [List.getElem?_drop] at hj; exact hj
  · cases hj
theorem Holds.rd (h : Holds w l) (i : Nat) {b : Nat} {T : TypeId} {cs : List Value} (hi : l[i]? = some (cl b T cs)) : Rd b cs w := fun _ _ hk => h.cl_cell i hi hk

/-! ### Regions whose order is open -/
theorem A_start {id N : Nat} {lo : List Oper} {S : World → Prop} (hm : P.follows .mixedOrders = true) (hs : Nat.beq lo.length N = true) {ls : Array Bool} (hl : Array.replicate N false = ls)
    (h : wpAnyH P .any lo.toArray Q S N ls (mkA n e ds) w.drew) : (Code.region id lo.toArray true).wp P Q (mkA n e ds) w := by
  have hs' : lo.length = N := Nat.eq_of_beq_eq_true hs
  subst hl
  refine wp_region_held (S := S) hm ?_
  have : lo.toArray.size = N := by simpa using hs'
  rw [this]
  exact h
theorem A_take {lo : List Oper} {S : World → Prop} {fuel : Nat} {ls ls' : Array Bool} (i : Nat) {dd : Nat} {op : Op} {v : Value} (hi : lo[i]? = some ⟨some dd, op, ty, pos, af, none⟩) (hs : Region.noSelect lo.toArray = true)
    (hf : Region.free .any lo.toArray ls i = true) (hr : (Region.ready .any lo.toArray ls).contains i = true) (hl : ls.setIfInBounds i true = ls') (hQ : ∀ c a w, Q (.panic c) (a.put (some dd) v) w → Q (.panic c) a w)
    (hy : ∀ w, S w → (execOp (ev n e) ⟨some dd, op, ty, pos, af, none⟩).run P w = .ok (.value v) w) (hS : S w) (h : wpAnyH P .any lo.toArray Q S fuel ls' (mkA n (upd e dd v) ds) w) :
    wpAnyH P .any lo.toArray Q S (fuel + 1) ls (mkA n e ds) w := by
  subst hl
  have hi : lo.toArray[i]? = _ := (List.getElem?_toArray ..).trans hi
  refine wpAnyH_take hi hs hf hr hQ (.inl ⟨rfl, fun w hw => ?_⟩) hS ?_
  · rw [eval_mkA]; exact hy w hw
  · rw [put_mkA]; exact h
theorem A_takeYes {lo : List Oper} {S : World → Prop} {fuel : Nat} {ls ls' : Array Bool} (i : Nat) {dd j dj : Nat} {b : Bool} {op : Op} {v : Value} (hi : lo[i]? = some ⟨some dd, op, ty, pos, af, some (j, b)⟩) (hs : Region.noSelect lo.toArray = true)
    (hf : Region.free .any lo.toArray ls i = true) (hr : (Region.ready .any lo.toArray ls).contains i = true) (hl : ls.setIfInBounds i true = ls') (hQ : ∀ c a w, Q (.panic c) (a.put (some dd) v) w → Q (.panic c) a w)
    (hj : (lo[j]?).bind (·.dst) = some dj) (hn : Nat.blt dj n = true) (hb : e dj = .bool b)
    (hy : ∀ w, S w → (execOp (ev n e) ⟨some dd, op, ty, pos, af, some (j, b)⟩).run P w = .ok (.value v) w) (hS : S w) (h : wpAnyH P .any lo.toArray Q S fuel ls' (mkA n (upd e dd v) ds) w) :
    wpAnyH P .any lo.toArray Q S (fuel + 1) ls (mkA n e ds) w := by
  subst hl
  have hi : lo.toArray[i]? = _ := (List.getElem?_toArray ..).trans hi
  refine wpAnyH_take hi hs hf hr hQ (.inl ⟨by simp [Region.wanted, yielded_mkA (ds := ds) hj hn hb], fun w hw => ?_⟩) hS ?_
  · rw [eval_mkA]; exact hy w hw
  · rw [put_mkA]; exact h
theorem A_takeNo {lo : List Oper} {S : World → Prop} {fuel : Nat} {ls ls' : Array Bool} (i : Nat) {dd j dj : Nat} {b c : Bool} {op : Op} (hi : lo[i]? = some ⟨some dd, op, ty, pos, af, some (j, c)⟩) (hs : Region.noSelect lo.toArray = true)
    (hf : Region.free .any lo.toArray ls i = true) (hr : (Region.ready .any lo.toArray ls).contains i = true) (hl : ls.setIfInBounds i true = ls') (hQ : ∀ c a w, Q (.panic c) (a.put (some dd) undef) w → Q (.panic c) a w)
    (hj : (lo[j]?).bind (·.dst) = some dj) (hn : Nat.blt dj n = true) (hb : e dj = .bool b) (hc : b ≠ c) (hS : S w)
    (h : wpAnyH P .any lo.toArray Q S fuel ls' (mkA n (upd e dd undef) ds) w) : wpAnyH P .any lo.toArray Q S (fuel + 1) ls (mkA n e ds) w := by
  subst hl
  have hi : lo.toArray[i]? = _ := (List.getElem?_toArray ..).trans hi
  refine wpAnyH_take hi hs hf hr hQ (.inr ⟨by simp [Region.wanted, yielded_mkA (ds := ds) hj hn hb, hc], rfl⟩) hS ?_
  rw [put_mkA]; exact h
theorem A_done {S : World → Prop} {fuel : Nat} {ls : Array Bool} (hr : Region.ready .any ops ls = []) (h : Q .normal (mkA n e ds) w) : wpAnyH P .any ops Q S fuel ls (mkA n e ds) w := wpAnyH_done hr h fuel
def AllR (P : Program) (ops : Array Oper) (Q : Exit → Act → World → Prop) (S : World → Prop) (fuel : Nat) (ls : Array Bool) (a : Act) (w : World) (rs : List Nat) : Prop :=
  ∀ i ∈ rs, wpOp P ops Q i (fun a' w' => S w' ∧ wpAnyH P .any ops Q S fuel (ls.setIfInBounds i true) a' w') a w
theorem A_ready {S : World → Prop} {fuel : Nat} {ls : Array Bool} {i : Nat} {rs : List Nat} (hr : Region.ready .any ops ls = i :: rs) (h : AllR P ops Q S fuel ls (mkA n e ds) w (i :: rs)) :
    wpAnyH P .any ops Q S (fuel + 1) ls (mkA n e ds) w := wpAnyH_all hr (by simp) h
theorem AllR.nil {S : World → Prop} {fuel : Nat} {ls : Array Bool} {a : Act} : AllR P ops Q S fuel ls a w [] := fun i hi => by cases hi
theorem AllR.cons {S : World → Prop} {fuel : Nat} {ls : Array Bool} {a : Act} {i : Nat} {rs : List Nat}
    (h : wpOp P ops Q i (fun a' w' => S w' ∧ wpAnyH P .any ops Q S fuel (ls.setIfInBounds i true) a' w') a w) (k : AllR P ops Q S fuel ls a w rs) : AllR P ops Q S fuel ls a w (i :: rs) := fun j hj => by
  rcases List.mem_cons.1 hj with rfl | hj
  · exact h
  · exact k j hj
theorem A_op {lo : List Oper} {S : World → Prop} {fuel i dd : Nat} {ls ls' : Array Bool} {op : Op} (hi : lo[i]? = some ⟨some dd, op, ty, pos, af, none⟩) (hl : ls.setIfInBounds i true = ls')
    (h : Stp P n e ⟨some dd, op, ty, pos, af, none⟩ w fun v w' => S w' ∧ wpAnyH P .any lo.toArray Q S fuel ls' (mkA n (upd e dd v) ds) w') :
    wpOp P lo.toArray Q i (fun a' w' => S w' ∧ wpAnyH P .any lo.toArray Q S fuel (ls.setIfInBounds i true) a' w') (mkA n e ds) w := by
  subst hl
  unfold wpOp
  rw [List.getElem?_toArray, hi]
  dsimp only
  rw [if_pos (by rfl)]
  refine .inl (Stp.wp ?_)
  simpa only [put_mkA] using h
theorem A_op0 {lo : List Oper} {S : World → Prop} {fuel i : Nat} {ls ls' : Array Bool} {op : Op} (hi : lo[i]? = some ⟨none, op, ty, pos, af, none⟩) (hl : ls.setIfInBounds i true = ls')
    (h : Stp P n e ⟨none, op, ty, pos, af, none⟩ w fun v w' => S w' ∧ wpAnyH P .any lo.toArray Q S fuel ls' (mkA n e ds) w') :
    wpOp P lo.toArray Q i (fun a' w' => S w' ∧ wpAnyH P .any lo.toArray Q S fuel (ls.setIfInBounds i true) a' w') (mkA n e ds) w := by
  subst hl
  unfold wpOp
  rw [List.getElem?_toArray, hi]
  dsimp only
  rw [if_pos (by rfl)]
  exact .inl (Stp.wp h)
theorem A_opYes {lo : List Oper} {S : World → Prop} {fuel i dd j dj : Nat} {b : Bool} {ls ls' : Array Bool} {op : Op} (hi : lo[i]? = some ⟨some dd, op, ty, pos, af, some (j, b)⟩) (hl : ls.setIfInBounds i true = ls')
    (hj : (lo[j]?).bind (·.dst) = some dj) (hn : Nat.blt dj n = true) (hb : e dj = .bool b)
    (h : Stp P n e ⟨some dd, op, ty, pos, af, some (j, b)⟩ w fun v w' => S w' ∧ wpAnyH P .any lo.toArray Q S fuel ls' (mkA n (upd e dd v) ds) w') :
    wpOp P lo.toArray Q i (fun a' w' => S w' ∧ wpAnyH P .any lo.toArray Q S fuel (ls.setIfInBounds i true) a' w') (mkA n e ds) w := by
  subst hl
  unfold wpOp
  rw [List.getElem?_toArray, hi]
  dsimp only
  rw [if_pos (by simp [Region.wanted, yielded_mkA (ds := ds) hj hn hb])]
  refine .inl (Stp.wp ?_)
  simpa only [put_mkA] using h
end
end Go.Proofs.YtlnihndjepjagaaGreat.Gw
set_option linter.unusedVariables false
set_option linter.unusedSimpArgs false
namespace Go.Proofs.YtlnihndjepjagaaGreat.Gw
open Go Go.RowKit
section
variable {P : Program} {n : Nat} {e : Env} {w : World} {K : Value → World → Prop} {Q : Exit → Act → World → Prop} {ops : Array Oper} {rest : List Oper} {ds : List Deferred}
  {d : Option Nat} {ty : TypeId} {pos : String} {af : Array Edge} {g : Option (Nat × Bool)} {l : List SP}

def sl (T sz : Nat) (v : Value) (m : Nat) (xs : List Value) : SP := fun h =>
  (v = .slice none 0 0 ∧ m = 0 ∧ xs = []) ∨ ∃ b pr sp cap, v = .slice (some ⟨b, pr.length, none⟩) m cap ∧ xs.length = m * sz ∧ sp.length = (cap - m) * sz ∧ m ≤ cap ∧ cl b T (pr ++ xs ++ sp) h
theorem sl_nil (T sz : Nat) (h : HP) : sl T sz (.slice none 0 0) 0 [] h := .inl ⟨rfl, rfl, rfl⟩
theorem Sat.add_free {A : SP} (hA : ∀ h, A h) {l : List SP} {g : HP} (h : Sat l g) : Sat (A :: l) g :=
  ⟨(fun _ => none), g, (fun _ _ e => by cases e), Sub.rfl' g, (fun _ => Or.inl rfl), hA _, h⟩
theorem Holds.add_nil (h : Holds w l) (T sz : Nat) : Holds w (sl T sz (.slice none 0 0) 0 [] :: l) := Sat.add_free (sl_nil T sz) h
theorem Sat.map_at {A B : SP} {g : HP} (i : Nat) (hi : l[i]? = some A) (f : ∀ h, A h → B h) (h : Sat l g) : Sat (l.set i B) g :=
  Sat.set i hi h fun h' k s t d a => ⟨h', s, t, d, f h' a⟩
theorem Holds.map_at {A B : SP} (h : Holds w l) (i : Nat) (hi : l[i]? = some A) (f : ∀ h, A h → B h) : Holds w (l.set i B) := Sat.map_at i hi f h
theorem Holds.to_sl (h : Holds w l) (i : Nat) {b T sz m cap : Nat} {xs : List Value} (pr sp : List Value) (hi : l[i]? = some (cl b T (pr ++ xs ++ sp))) (h1 : xs.length = m * sz) (h2 : sp.length = (cap - m) * sz) (h3 : m ≤ cap) :
    Holds w (l.set i (sl T sz (.slice (some ⟨b, pr.length, none⟩) m cap) m xs)) :=
  h.map_at i hi fun h' a => .inr ⟨b, pr, sp, cap, rfl, h1, h2, h3, a⟩
theorem Holds.sl_at (h : Holds w l) (i : Nat) {T sz m : Nat} {v : Value} {xs : List Value} (hi : l[i]? = some (sl T sz v m xs)) :
    (v = .slice none 0 0 ∧ m = 0 ∧ xs = []) ∨ ∃ b pr sp cap, v = .slice (some ⟨b, pr.length, none⟩) m cap ∧ xs.length = m * sz ∧ sp.length = (cap - m) * sz ∧ m ≤ cap ∧ Holds w (l.set i (cl b T (pr ++ xs ++ sp))) := by
  obtain ⟨h1, k, s, t, dd, a, r⟩ := Sat.bring i hi h
  rcases a with a | ⟨b, pr, sp, cap, e1, e2, e3, e4, a⟩
  · exact .inl a
  · refine .inr ⟨b, pr, sp, cap, e1, e2, e3, e4, ?_⟩
    have hl : i < l.length := (List.getElem?_eq_some_iff.1 hi).1
    refine Sat.back i (A := cl b T (pr ++ xs ++ sp)) (by simp [hl]) ?_
    rw [List.eraseIdx_set_eq]
    exact ⟨h1, k, s, t, dd, a, r⟩
theorem Holds.sl_len (h : Holds w l) (i : Nat) {T sz m : Nat} {v : Value} {xs : List Value} (hi : l[i]? = some (sl T sz v m xs)) : xs.length = m * sz ∧ ∃ a cap, v = .slice a m cap ∧ m ≤ cap := by
  rcases h.sl_at i hi with ⟨rfl, rfl, rfl⟩ | ⟨b, pr, sp, cap, rfl, e2, e3, e4, _⟩
  · exact ⟨by simp, _, _, rfl, Nat.le_refl _⟩
  · exact ⟨e2, _, _, rfl, e4⟩
theorem Holds.cl_src (h : Holds w l) (i : Nat) {b T sz m c t e' : Nat} {xs : List Value} (hi : l[i]? = some (cl b T xs)) (hk : P.underlying t = some (.slice e')) (h1 : ∀ u ∈ xs, u.oneCell' = true) (hl : xs.length = m * sz) :
    Src P sz t (.slice (some ⟨b, 0, none⟩) m c) m xs w :=
  Src.ofSlice w hk _ _ _ _ hl (fun j u hj => by rw [add_mk, Nat.zero_add]; exact h.cl_cell i hi hj) h1
theorem setCells_eq (b : Nat) : ∀ (vs : List Value) (o : Nat) (w : World), w.setCells b o vs = setCells w b o vs
  | [], _, _ => rfl
  | v :: r, o, w => setCells_eq b r (o + 1) _
theorem Same.drew_alloc (w : World) (o : Obj) : Same w (w.drew.alloc o) := ⟨rfl, rfl, rfl⟩

theorem run_append_sl {t tx ty el sz bb m k : Nat} {z v x : Value} {xs ys : List Value} (ht : P.underlying t = some (.slice el)) (hz : tin P el = some (sz, bb, some z)) (hzs : z.cells.size = sz) (hb : 0 < bb)
    (h : Holds w l) (i : Nat) (hi : l[i]? = some (sl el sz v m xs)) (hs : Src P sz tx x k ys w) (hroom : (m + k) * bb ≤ 140737488355328) :
    ∃ v' w', (Builtin.append_ #[t, tx] ty #[v, x]).run P w = .ok v' w' ∧ Same w w' ∧ Holds w' (l.set i (sl el sz v' (m + k) (xs ++ ys))) := by
  obtain ⟨ti, hti, h1, h2, h3⟩ := tin_info hz
  have hl : i < l.length := (List.getElem?_eq_some_iff.1 hi).1
  have hset : l.set i (sl el sz v m xs) = l := by
    obtain ⟨hl, he⟩ := List.getElem?_eq_some_iff.1 hi
    rw [← he]; simp
  have hmk : m + k ≤ 140737488355328 := Nat.le_trans (Nat.le_mul_of_pos_right _ hb) hroom
  have grow : ∀ (base : Option Addr) (cap : Nat), cap < m + k → (Builtin.firstCells sz m (.slice base m cap)).run P w.drew = .ok xs.toArray w.drew → xs.length = m * sz →
      ∃ v' w', (Builtin.append_ #[t, tx] ty #[.slice base m cap, x]).run P w = .ok v' w' ∧ Same w w' ∧ Holds w' (l.set i (sl el sz v' (m + k) (xs ++ ys))) := by
    intro base cap hg hold hlen
    have hfit : Builtin.nextslicecap (m + k) cap * ti.bytes ≤ 281474976710656 := by
      rw [h2]
      have := nextslicecap_le hg
      calc Builtin.nextslicecap (m + k) cap * bb ≤ 2 * (m + k) * bb := Nat.mul_le_mul_right _ this
        _ = 2 * ((m + k) * bb) := by rw [Nat.mul_assoc]
        _ ≤ _ := by omega
    have hr := run_append_grow_src (P := P) w t tx ty el ti z ht hti h3 base m cap xs (by rw [h1]; exact hold) x k ys (by rw [h1]; exact hs) hg (by omega) hfit
    refine ⟨_, _, hr, Same.drew_alloc w _, ?_⟩
    have hge : m + k ≤ grownCap w (m + k) cap el := grownCap_ge w (m + k) cap el
    have ha := (h.drew).alloc (((xs ++ ys).toArray ++ Builtin.zeroCells z.cells (grownCap w (m + k) cap el - (m + k)))) el
    have hb' := ha.bring (i + 1) (A := sl el sz v m xs) (by simpa using hi)
    have hc := hb'.tail
    -- the new row in the old one's place
    have hd : Holds (w.drew.alloc (.cells ((xs ++ ys).toArray ++ Builtin.zeroCells z.cells (grownCap w (m + k) cap el - (m + k))) el))
        (sl el sz (.slice (some ⟨w.heap.size, 0, none⟩) (m + k) (grownCap w (m + k) cap el)) (m + k) (xs ++ ys) :: l.eraseIdx i) := by
      refine Holds.map_at (B := sl el sz (.slice (some ⟨w.heap.size, 0, none⟩) (m + k) (grownCap w (m + k) cap el)) (m + k) (xs ++ ys)) hc 0 rfl fun h' a => .inr ⟨w.heap.size, [], (Builtin.zeroCells z.cells (grownCap w (m + k) cap el - (m + k))).toList, grownCap w (m + k) cap el, rfl, ?_, ?_, hge, ?_⟩
      · rw [List.length_append, hlen, hs.newsLen, Nat.add_mul]
      · rw [Array.length_toList]
        simp [Builtin.zeroCells, hzs]
      · simpa using a
    refine Sat.back i (A := sl el sz (.slice (some ⟨w.heap.size, 0, none⟩) (m + k) (grownCap w (m + k) cap el)) (m + k) (xs ++ ys)) (by simp [hl]) ?_
    rw [List.eraseIdx_set_eq]
    exact hd
  rcases h.sl_at i hi with ⟨rfl, rfl, rfl⟩ | ⟨b, pr, sp, cap, rfl, e2, e3, e4, hh⟩
  · by_cases hk : k = 0
    · subst hk
      have hys : ys = [] := by
        have := hs.newsLen
        simpa using this
      subst hys
      refine ⟨.slice none 0 0, w, ?_, Same.refl w, by rw [show 0 + 0 = 0 by rfl, List.append_nil, hset]; exact h⟩
      rcases hs.kind with ⟨e', hk⟩ | hk <;> simp [Builtin.append_, run_underlying ht, run_underlying hk, sizeOf, typeInfo, hti, hs.len, h1, hs.cells]
    · exact grow none 0 (by omega) (run_firstCells_none _ _ _ _ _) (by simp)
  · by_cases hroom' : m + k ≤ cap
    · have hyl := hs.newsLen
      have hsp : k * sz ≤ sp.length := by
        rw [e3]
        exact Nat.mul_le_mul_right _ (by omega)
      have hi' : (l.set i (cl b el (pr ++ xs ++ sp)))[i]? = some (cl b el (pr ++ xs ++ sp)) := by simp [hl]
      have hoff : pr.length + m * sz + ys.length ≤ (pr ++ xs ++ sp).length := by simp only [List.length_append]; omega
      have hr := run_append_room_src (P := P) w t tx ty el ti ht hti b pr.length m cap x k ys (by rw [h1]; exact hs) hroom'
        (fun j hj => by
          rw [h1, hh.cl_cell i hi' (List.getElem?_eq_getElem (by omega : pr.length + m * sz + j < (pr ++ xs ++ sp).length))]; rfl)
        (fun j hj => by rw [h1]; exact hh.cl_frozen i hi' (by omega))
      rw [h1] at hr
      refine ⟨_, _, hr, by rw [setCells_eq]; exact Same.setCells b ys _ w, ?_⟩
      rw [setCells_eq]
      have hset2 := Holds.setCells i ys (pr.length + m * sz) w _ _ hh hi' hoff
      rw [List.set_set] at hset2
      have e : (pr ++ xs ++ sp).take (pr.length + m * sz) ++ ys ++ (pr ++ xs ++ sp).drop (pr.length + m * sz + ys.length) = pr ++ (xs ++ ys) ++ sp.drop ys.length := by
        have e0 : (pr ++ xs).length = pr.length + m * sz := by rw [List.length_append, e2]
        rw [← e0, List.take_left, List.drop_append, List.drop_eq_nil_of_le (by omega), show (pr ++ xs).length + ys.length - (pr ++ xs).length = ys.length by omega]
        simp [List.append_assoc]
      rw [e] at hset2
      have := Holds.map_at (B := sl el sz (.slice (some ⟨b, pr.length, none⟩) (m + k) cap) (m + k) (xs ++ ys)) hset2 i (by simp [hl]) fun h' a =>
        .inr ⟨b, pr, sp.drop ys.length, cap, rfl, by rw [List.length_append, e2, hyl, Nat.add_mul], by rw [List.length_drop, e3, hyl, ← Nat.sub_mul]; congr 1; omega, hroom', a⟩
      rwa [List.set_set] at this
    · refine grow _ cap (by omega) ?_ e2
      refine run_firstCells_some _ _ _ _ _ _ _ e2 fun j u hj => ?_
      rw [add_mk]
      have hi' : (l.set i (cl b el (pr ++ xs ++ sp)))[i]? = some (cl b el (pr ++ xs ++ sp)) := by simp [hl]
      have := hh.drew.cl_cell i hi' (k := pr.length + j) (v := u) ?_
      · exact this
      · have hj' : j < xs.length := (List.getElem?_eq_some_iff.1 hj).1
        rw [List.append_assoc, List.getElem?_append_right (by omega), show pr.length + j - pr.length = j by omega, List.getElem?_append_left hj', hj]
theorem T_append {t tx el sz bb m k : Nat} {o1 o2 : Operand} {z v x : Value} {xs ys : List Value} (h1 : ev n e o1 = v) (h2 : ev n e o2 = x) (ht : P.underlying t = some (.slice el)) (hz : tin P el = some (sz, bb, some z)) (hzs : z.cells.size = sz) (hb : 0 < bb)
    (h : Holds w l) (i : Nat) (hi : l[i]? = some (sl el sz v m xs)) (hs : Src P sz tx x k ys w) (hroom : (m + k) * bb ≤ 140737488355328)
    (kk : ∀ v' w', Same w w' → Holds w' (l.set i (sl el sz v' (m + k) (xs ++ ys))) → K v' w') :
    Stp P n e ⟨d, .call { callee := .builtin .append, args := #[o1, o2], argTypes := #[t, tx] }, ty, pos, af, g⟩ w K := by
  obtain ⟨v', w', hr, hsame, hh⟩ := run_append_sl (ty := ty) ht hz hzs hb h i hi hs hroom
  refine .inl ⟨v', w', ?_, kk v' w' hsame hh⟩
  simp only [execOp, resolve, Sem.run_bind, Sem.run_pure, Result.andThen_ok, invoke, builtin]
  simp [h1, h2, hr]

/-! ### Strings and bytes -/
def bytesV (ns : List Int) : List Value := ns.map (Value.int .u8)
def strN (ns : List Int) : ByteArray := ns.foldl (fun r n => r.push (UInt8.ofNat n.toNat)) ByteArray.empty
theorem strN_data (ns : List Int) : (strN ns).data.toList = ns.map fun n => UInt8.ofNat n.toNat := by
  have : ∀ (ns : List Int) (s : ByteArray), (ns.foldl (fun r n => r.push (UInt8.ofNat n.toNat)) s).data.toList = s.data.toList ++ ns.map fun n => UInt8.ofNat n.toNat := by
    intro ns
    induction ns with
    | nil => intro s; simp
    | cons a ns ih => intro s; simp [ih]
  simpa [strN] using this ns ByteArray.empty
theorem T_s2b {s t el : Nat} {x : Operand} {u : ByteArray} {ud : TypeDesc} (hx : ev n e x = .string u) (hs : P.underlying s = some ud) (ht : P.underlying t = some (.slice el)) (he : P.underlying el = some (.int .u8)) (h : Holds w l)
    (k : ∀ b c w', Same w w' → u.size ≤ c → Holds w' (sl el 1 (.slice (some ⟨b, 0, none⟩) u.size c) u.size (byteCells u) :: l) → K (.slice (some ⟨b, 0, none⟩) u.size c) w') :
    Stp P n e ⟨d, .convert s t x, ty, pos, af, g⟩ w K := by
  refine .inl ⟨_, _, ?_, k w.heap.size (grownCap w u.size 0 el) (Lib.bytesWorld w el u) ⟨rfl, rfl, rfl⟩ (grownCap_ge _ _ _ _) ?_⟩
  · simp only [execOp]
    rw [hx]
    exact run_v _ (Lib.run_convert_string_bytes w s t el u hs ht he)
  · have hw : hp (Lib.bytesWorld w el u) = upb (hp w) w.heap.size (.cells (Lib.bytesCells w el u) el ((Lib.bytesCells w el u).size, (Lib.bytesCells w el u).size + 1)) :=
      hp_setBlock _ _ _ _ (Lib.bytesWorld_at_new w el u) (fun c hc => by
        rcases Nat.lt_or_ge c w.heap.size with x | x
        · exact Lib.bytesWorld_at_old w el u c x
        · have h1 : (Lib.bytesWorld w el u).heap.size ≤ c := by rw [Lib.bytesWorld_size]; omega
          rw [Array.getElem?_eq_none h1, Array.getElem?_eq_none x])
    unfold Holds
    rw [hw]
    refine Sat.upb_new h (by simp [hp]) ?_
    refine .inr ⟨w.heap.size, [], List.replicate (grownCap w u.size 0 el - u.size) (Value.int .u8 0), grownCap w u.size 0 el, rfl, by rw [byteCells_length, Nat.mul_one], by simp, grownCap_ge _ _ _ _, ?_⟩
    have hc : Lib.bytesCells w el u = ([] ++ byteCells u ++ List.replicate (grownCap w u.size 0 el - u.size) (Value.int .u8 0)).toArray := by
      apply Array.ext'
      simp [Lib.bytesCells, byteCells]
    refine ⟨((Lib.bytesCells w el u).size, (Lib.bytesCells w el u).size + 1), by rw [← hc]; simp, ?_⟩
    intro i hi ⟨h1, h2⟩
    rw [hc] at h1
    simp only [List.size_toArray] at h1
    omega
theorem x_b2s {s t el m c : Nat} {x : Operand} {b off : Nat} {ns : List Int} (hx : ev n e x = .slice (some ⟨b, off, none⟩) m c) (hs : P.underlying s = some (.slice el)) (he : P.underlying el = some (.int .u8)) (ht : P.underlying t = some .string)
    (hl : ns.length = m) (hc : ∀ j v, (bytesV ns)[j]? = some v → w.cell? ⟨b, off + j, none⟩ = some v) :
    (execOp (ev n e) ⟨d, .convert s t x, ty, pos, af, g⟩).run P w = .ok (.value (.string (strN ns))) w := by
  subst hl
  simp only [execOp]
  rw [hx]
  refine run_v _ ?_
  rw [run_convert_bytes_string w s t el _ _ _ hs he ht]
  have := run_loadCells_list (P := P) w ⟨b, off, none⟩ (bytesV ns) (fun j v hj => by rw [add_mk]; exact hc j v hj)
  rw [show (bytesV ns).length = ns.length by simp [bytesV]] at this
  exact run_bytesToString w _ _ _ ns this
theorem x_b2s_nil {s t el m c : Nat} {x : Operand} (hx : ev n e x = .slice none m c) (hs : P.underlying s = some (.slice el)) (he : P.underlying el = some (.int .u8)) (ht : P.underlying t = some .string) :
    (execOp (ev n e) ⟨d, .convert s t x, ty, pos, af, g⟩).run P w = .ok (.value (.string (strN []))) w := by
  simp only [execOp]
  rw [hx]
  refine run_v _ ?_
  rw [run_convert_bytes_string w s t el _ _ _ hs he ht]
  simp [Conv.bytesToString, strN]
end
end Go.Proofs.YtlnihndjepjagaaGreat.Gw
set_option linter.unusedVariables false
set_option linter.unusedSimpArgs false
namespace Go.Proofs.YtlnihndjepjagaaGreat.Gw
open Go Go.RowKit
section
variable {P : Program} {n : Nat} {e : Env} {w : World} {K : Value → World → Prop} {Q : Exit → Act → World → Prop} {ops : Array Oper} {rest : List Oper} {ds : List Deferred}
  {d : Option Nat} {ty : TypeId} {pos : String} {af : Array Edge} {g : Option (Nat × Bool)} {l : List SP}
end
end Go.Proofs.YtlnihndjepjagaaGreat.Gw
set_option linter.unusedVariables false
set_option linter.unusedSimpArgs false
namespace Go.Proofs.YtlnihndjepjagaaGreat.Gw
open Go Go.RowKit Go.ChangeShapes Go.WideShapes Go.ChangeAt
theorem trodAll_stays {H : Type} {enc : TypeId × Value → H} {P : Program} (hl : laidOutB P = true) {W W' : World} (hb : Below W.heap.size W W') :
    ∀ (ts : List TypeId) (vs : List Value) (ds : List (DataW H)) (ps : List MemPlace), (ts.all fun t => P.readableRec t && decide (t < P.types.size)) = true →
      DataW.TrodAll enc P W 0 (fun _ => true) true ts vs ds ps → (∀ x ∈ ps, x.block < W.heap.size) → DataW.TrodAll enc P W' 0 (fun b => decide (b < W.heap.size)) true ts vs ds ps
  | [], [], [], ps, _, h, _ => h
  | t :: ts, v :: vs, d :: ds, ps, hts, h, hlt => by
    obtain ⟨p, q, h1, h2, rfl⟩ := h
    simp only [List.all_cons, Bool.and_eq_true, decide_eq_true_eq] at hts
    exact ⟨p, q, Below.trod hl hts.1.1 hts.1.2 h1 hb (fun x hx => hlt x (by simp [hx])), trodAll_stays hl hb ts vs ds q (by simpa using hts.2) h2 (fun x hx => hlt x (by simp [hx])), rfl⟩
  | [], [], _ :: _, _, _, h, _ => h.elim
  | [], _ :: _, _, _, _, h, _ => h.elim
  | _ :: _, [], _, _, _, h, _ => h.elim
  | _ :: _, _ :: _, [], _, _, h, _ => h.elim
theorem below_of_holds {W W' : World} {l : List SP} (hs : Same W W') (h : Holds W' (ro (hp W) :: l)) : Below W.heap.size W W' := by
  have hb := h.ro_sub 0 rfl
  have hblk : ∀ k, k < W.heap.size → W'.heap[k]? = W.heap[k]? := fun k hk => by
    have e : hp W k = some W.heap[k] := by simp [hp, hk]
    have := hb k _ e
    simp only [hp] at this
    rw [this]; simp [hk]
  refine ⟨hs.os, hs.tape, hs.output, ?_, hblk⟩
  rcases Nat.lt_or_ge W'.heap.size W.heap.size with h' | h'
  · have := hblk W'.heap.size h'
    rw [Array.getElem?_eq_none (Nat.le_refl _), Array.getElem?_eq_getElem h'] at this
    cases this
  · exact h'
theorem holds_init (W : World) : Holds W [ro (hp W)] :=
  ⟨hp W, (fun _ => none), Sub.rfl' _, (fun _ _ e => by cases e), (fun _ => Or.inr rfl), Sub.rfl' _, trivial⟩
theorem law_calls {P : Program} {f : FuncId} {args : Array Value} {W : World} (h : Tri P f args (hp W) [] fun v post => v = .bool true) :
    Calls P f args W fun e W' => e = .returned (.bool true) ∧ Below W.heap.size W W' :=
  (h W [] (holds_init W)).mono fun e W' ⟨v, post, he, hv, hs, hh⟩ => ⟨by rw [he, hv], below_of_holds hs hh⟩
theorem law_lift {H : Type} {enc : TypeId × Value → H} {C : Checked} {os : Os} {f : FuncId} {fn : Func} {s : ChangeSpec} {tb : TypeId} (own : ownKnob C.prog.godebug = none) (started : os.Started)
    (noInit : C.prog.inits.idxOf? f = none) (hfn : C.prog.funcs[f]? = some fn)
    (witness : ∃ (w : World) (tape : Tape) (i : Input), w.os = os ∧ (w.forCall tape i).Shaped C.prog ∧ i.vars = [] ∧ Input.okWide C.prog (w.forCall tape i) .any w.heap.size f i ∧
      s.pre6 enc C.prog fn [] false (w.forCall tape i).memory i.args ∧ Assume.holds {} C.prog (lone (Frame.enter C.prog f i.args .normal) [] (w.forCall tape i)))
    (hl : laidOutB C.prog = true) (hts : (fn.params.toList.all fun t => C.prog.readableRec t && decide (t < C.prog.types.size)) = true) (hv : s.vars = []) (hrt : fn.resultTypes = #[tb]) (htb : C.prog.underlying tb = some .bool)
    (hs : ∀ ds : List (DataW H), ds.length = fn.params.size → s.fn H ds = { results := [.lit (.bool true)], args := ds })
    (contract : ∀ (W : World) (base : Nat) (args : Array Value) (ds : List (DataW H)) (before : List MemPlace),
      (∀ (j : Nat) t v, fn.params[j]? = some t → args[j]? = some v → Value.okWide C.prog W .any base t v) → DataW.TrodAll enc C.prog W 0 (fun _ => true) true fn.params.toList args.toList ds before →
      (DataW.weightsEach C.prog fn.params.toList ds).all (· ≤ reachBytes) = true →
      Calls C.prog f args W fun e W' => e = .returned (.bool true) ∧ Below W.heap.size W W') :
    ReturnsInHanded {} C os f .any (s.pre6 enc C.prog fn [] false) (s.post enc C.prog fn false true false false) := by
  refine returnsInHanded_of_change_sized own started noInit hfn witness ?_
  intro W base args ds gs before hval hW _ hsz _
  have hW' := hW
  obtain ⟨p, q, hA, hV, rfl, hfz, hnd⟩ := hW
  rw [hv] at hV
  have hgs : gs = [] ∧ q = [] := trodVars_none hV
  obtain ⟨rfl, rfl⟩ := hgs
  have hvt : s.plain.varTypes C.prog = [] := by
    simp only [ChangeSpec.plain, DataSpec.varTypes, hv]
    rfl
  rw [hvt] at hsz
  simp only [List.append_nil] at hsz hW'
  refine (contract W base args ds p hval hA hsz).mono fun e W' ⟨he, hb⟩ => ⟨.bool true, he, ?_⟩
  have hlen : ∀ (ts : List TypeId) (vs : List Value) (ds : List (DataW H)) (ps : List MemPlace), DataW.TrodAll enc C.prog W 0 (fun _ => true) true ts vs ds ps → ds.length = ts.length := by
    intro ts
    induction ts with
    | nil => intro vs ds ps h; cases vs <;> cases ds <;> first | rfl | exact h.elim
    | cons t ts ih =>
      intro vs ds ps h
      cases vs with
      | nil => exact h.elim
      | cons v vs =>
        cases ds with
        | nil => exact h.elim
        | cons d ds => obtain ⟨p, q, _, h2, _⟩ := h; simp [ih vs ds q h2]
  have hd : s.fn H (ds ++ []) = { results := [.lit (.bool true)], args := ds } := by
    rw [List.append_nil]
    exact hs ds (by simpa using hlen _ _ _ _ hA)
  refine ⟨ds, [], p, [], p, [], hW', ?_, ?_, ?_, hb.frame _, fun h => by cases h⟩
  · rw [hd, hrt]
    exact trodAll_mk1 (shut_bool htb true)
  · rw [hd]
    exact trodAll_stays hl hb _ _ _ _ hts hA (fun x hx => hW'.lt x hx)
  · rw [hd, hv]
    rfl
end Go.Proofs.YtlnihndjepjagaaGreat.Gw
set_option linter.unusedVariables false
set_option linter.unusedSimpArgs false
namespace Go.Proofs.YtlnihndjepjagaaGreat.Gw
open Go Go.RowKit
section
variable {P : Program} {n : Nat} {e : Env} {w : World} {K : Value → World → Prop} {Q : Exit → Act → World → Prop} {ops : Array Oper} {rest : List Oper} {ds : List Deferred}
  {d : Option Nat} {ty : TypeId} {pos : String} {af : Array Edge} {g : Option (Nat × Bool)} {l : List SP}
section
variable {dd : Nat} {xs ys : Array Value} {f : Field} {fs : List Field} {a b : Value} {r s : Bool}
theorem eqf_nil : (Op.eqFields dd xs ys []).run P w = .ok true w := by simp [Op.eqFields]
theorem eqf_cons (hn : (f.name == "_") = false) (ha : (part f.type xs f.offset).run P w = .ok a w) (hb : (part f.type ys f.offset).run P w = .ok b w) (he : (Op.equalIn dd f.type a b).run P w = .ok r w) (hr : (Op.eqFields dd xs ys fs).run P w = .ok s w) :
    (Op.eqFields dd xs ys (f :: fs)).run P w = .ok (r && s) w := by
  have hn' : f.name ≠ "_" := by simpa using hn
  rw [Op.eqFields]
  simp only [if_pos hn', Sem.run_bind, ha, hb, he, Result.andThen_ok]
  cases r
  · simp
  · simpa using hr
theorem eq_int {t : TypeId} {k : IntKind} {x y : Int} (hu : P.underlying t = some (.int k)) : (Op.equalIn (dd + 1) t (.int k x) (.int k y)).run P w = .ok (decide (x = y)) w := by
  simp only [Op.equalIn, Sem.run_bind, run_underlying hu, Result.andThen_ok, if_true, Sem.run_pure]
  by_cases h : x = y <;> simp [h]
theorem eq_bool {t : TypeId} {x y : Bool} (hu : P.underlying t = some .bool) : (Op.equalIn (dd + 1) t (.bool x) (.bool y)).run P w = .ok (x == y) w := by
  simp only [Op.equalIn, Sem.run_bind, run_underlying hu, Result.andThen_ok, Sem.run_pure]
theorem eq_str {t : TypeId} {x y : ByteArray} (hu : P.underlying t = some .string) : (Op.equalIn (dd + 1) t (.string x) (.string y)).run P w = .ok (x == y) w := by
  simp only [Op.equalIn, Sem.run_bind, run_underlying hu, Result.andThen_ok, Sem.run_pure]
theorem eq_struct {t : TypeId} {fs : Array Field} (hu : P.underlying t = some (.struct fs)) (hp : P.stoodInHeld t = false) (h : (Op.eqFields dd xs ys fs.toList).run P w = .ok r w) :
    (Op.equalIn (dd + 1) t (.agg xs) (.agg ys)).run P w = .ok r w := by
  have hf : P.fieldsOf t = fs := by simp [Program.fieldsOf, hu]
  rw [run_equalIn_struct (P := P) w dd t xs ys (by rw [hf]; exact hu) hp, hf]
  exact h
end
theorem x_eqS {t u : TypeId} {x y : Operand} {xs ys : Array Value} {r : Bool} (hx : ev n e x = .agg xs) (hy : ev n e y = .agg ys) (hq : P.eqGuardType P.depth t = false) (h : (Op.equalIn (9999 + 1) t (.agg xs) (.agg ys)).run P w = .ok r w) :
    (execOp (ev n e) ⟨d, .binOp .eql t x y u, ty, pos, af, g⟩).run P w = .ok (.value (.bool r)) w := by
  simp only [execOp]
  rw [hx, hy]
  refine run_v _ ?_
  have h1 : (eqGuard .eql t x y (.agg xs) (.agg ys)).run P w = .ok () w := by simp [eqGuard, hq]
  simp only [Sem.run_bind, h1, Result.andThen_ok, binOp]
  have h2 : (Op.equal t (.agg xs) (.agg ys)).run P w = .ok r w := h
  simp [h2]
theorem x_neqS {t u : TypeId} {x y : Operand} {xs ys : Array Value} {r : Bool} (hx : ev n e x = .agg xs) (hy : ev n e y = .agg ys) (hq : P.eqGuardType P.depth t = false) (h : (Op.equalIn (9999 + 1) t (.agg xs) (.agg ys)).run P w = .ok r w) :
    (execOp (ev n e) ⟨d, .binOp .neq t x y u, ty, pos, af, g⟩).run P w = .ok (.value (.bool !r)) w := by
  simp only [execOp]
  rw [hx, hy]
  refine run_v _ ?_
  have h1 : (eqGuard .neq t x y (.agg xs) (.agg ys)).run P w = .ok () w := by simp [eqGuard, hq]
  simp only [Sem.run_bind, h1, Result.andThen_ok, binOp]
  have h2 : (Op.equal t (.agg xs) (.agg ys)).run P w = .ok r w := h
  simp [h2]
end
end Go.Proofs.YtlnihndjepjagaaGreat.Gw
set_option linter.unusedVariables false
set_option linter.unusedSimpArgs false
namespace Go.Proofs.YtlnihndjepjagaaGreat.Gw
open Go Go.RowKit
section
variable {P : Program} {n : Nat} {e : Env} {w : World} {K : Value → World → Prop} {Q : Exit → Act → World → Prop} {ops : Array Oper} {rest : List Oper} {ds : List Deferred}
  {d : Option Nat} {ty : TypeId} {pos : String} {af : Array Edge} {g : Option (Nat × Bool)} {l : List SP}
def RC (R : HP) (b off : Nat) (xs : List Value) : Prop := ∀ j u, xs[j]? = some u → ∃ cs T fr, R b = some (.cells cs T fr) ∧ cs[off + j]? = some u
theorem RC.cell {R : HP} {b off : Nat} {xs : List Value} (h : RC R b off xs) (hs : Sub R (hp w)) {j : Nat} {u : Value} (hj : xs[j]? = some u) : w.cell? ⟨b, off + j, none⟩ = some u := by
  obtain ⟨cs, T, fr, hb, hc⟩ := h j u hj
  have := hs _ _ hb
  rw [cell_of_row w b (off + j) cs T fr this]
  exact hc
theorem RC.mono {R R' : HP} {b off : Nat} {xs : List Value} (h : RC R b off xs) (hs : Sub R R') : RC R' b off xs := fun j u hj => by
  obtain ⟨cs, T, fr, hb, hc⟩ := h j u hj
  exact ⟨cs, T, fr, hs _ _ hb, hc⟩
theorem RC.drop {R : HP} {b off : Nat} {xs : List Value} (h : RC R b off xs) (k : Nat) : RC R b (off + k) (xs.drop k) := fun j u hj => by
  rw [List.getElem?_drop] at hj
  obtain ⟨cs, T, fr, hb, hc⟩ := h _ u hj
  exact ⟨cs, T, fr, hb, by rw [Nat.add_assoc]; exact hc⟩
theorem RC.take {R : HP} {b off : Nat} {xs : List Value} (h : RC R b off xs) (k : Nat) : RC R b off (xs.take k) := fun j u hj => by
  rw [List.getElem?_take] at hj
  split at hj
  · exact h j u hj
  · cases hj
theorem RC.cells {R : HP} {b off : Nat} {xs : List Value} (h : RC R b off xs) (hs : Sub R (hp w)) (j : Nat) {vs : List Value} (hv : (xs.drop j).take vs.length = vs) :
    ∀ i v, vs[i]? = some v → w.cell? ((Addr.mk b (off + j) none).add i) = some v := by
  intro i v hi
  rw [add_mk, Nat.add_assoc]
  refine h.cell hs ?_
  rw [← hv] at hi
  rw [List.getElem?_take] at hi
  split at hi
  · rw [List.getElem?_drop] at hi; exact hi
  · cases hi
theorem Holds.ro_at (h : Holds w l) (i : Nat) {R : HP} (hi : l[i]? = some (ro R)) : Sub R (hp w) := h.ro_sub i hi
def RS (R : HP) (sz : Nat) (v : Value) (m : Nat) (xs : List Value) : Prop := xs.length = m * sz ∧ ∃ a cap, v = .slice a m cap ∧ m ≤ cap ∧ (0 < m → ∃ b off, a = some ⟨b, off, none⟩ ∧ RC R b off xs)
theorem RS.nil (R : HP) (sz : Nat) : RS R sz (.slice none 0 0) 0 [] := ⟨by simp, none, 0, rfl, Nat.le_refl _, fun h => absurd h (by omega)⟩
theorem RS.mono {R R' : HP} {sz m : Nat} {v : Value} {xs : List Value} (h : RS R sz v m xs) (hs : Sub R R') : RS R' sz v m xs := by
  obtain ⟨h1, a, cap, h2, h3, h4⟩ := h
  exact ⟨h1, a, cap, h2, h3, fun hm => by obtain ⟨b, off, e1, e2⟩ := h4 hm; exact ⟨b, off, e1, e2.mono hs⟩⟩
theorem RS.len {R : HP} {sz m : Nat} {v : Value} {xs : List Value} (h : RS R sz v m xs) : ∃ a cap, v = .slice a m cap ∧ m ≤ cap := by
  obtain ⟨h1, a, cap, h2, h3, h4⟩ := h
  exact ⟨a, cap, h2, h3⟩
theorem RS.at_ {R : HP} {sz m : Nat} {v : Value} {xs : List Value} (h : RS R sz v m xs) (hm : 0 < m) : ∃ b off cap, v = .slice (some ⟨b, off, none⟩) m cap ∧ m ≤ cap ∧ RC R b off xs := by
  obtain ⟨h1, a, cap, h2, h3, h4⟩ := h
  obtain ⟨b, off, rfl, e2⟩ := h4 hm
  exact ⟨b, off, cap, h2, h3, e2⟩
theorem RS.sub {R : HP} {sz m cap k : Nat} {a : Option Addr} {xs : List Value} (h : RS R sz (.slice a m cap) m xs) (hk : k ≤ m) : RS R sz (.slice a k cap) k (xs.take (k * sz)) := by
  obtain ⟨h1, a', cap', h2, h3, h4⟩ := h
  injection h2 with e1 e2 e3
  subst e1; subst e3
  refine ⟨by rw [List.length_take, h1]; exact Nat.min_eq_left (Nat.mul_le_mul_right _ hk), a, cap, rfl, by omega, fun hm => ?_⟩
  obtain ⟨b, off, e1, e2⟩ := h4 (by omega)
  exact ⟨b, off, e1, e2.take _⟩
theorem sl_RS {T sz m : Nat} {v : Value} {xs : List Value} {h R : HP} (a : sl T sz v m xs h) (hs : Sub h R) : RS R sz v m xs := by
  rcases a with ⟨rfl, rfl, rfl⟩ | ⟨b, pr, sp, cap, rfl, e2, e3, e4, fr, hb, hf⟩
  · exact RS.nil R sz
  · refine ⟨e2, _, cap, rfl, e4, fun _ => ⟨b, pr.length, rfl, fun j u hj => ⟨_, _, _, hs _ _ hb, ?_⟩⟩⟩
    have hj' : j < xs.length := (List.getElem?_eq_some_iff.1 hj).1
    simp only [List.getElem?_toArray]
    rw [List.append_assoc, List.getElem?_append_right (by omega), show pr.length + j - pr.length = j by omega, List.getElem?_append_left hj', hj]
theorem cl_RC {b T : Nat} {xs : List Value} {h R : HP} (a : cl b T xs h) (hs : Sub h R) : RC R b 0 xs := fun j u hj => by
  obtain ⟨fr, hb, _⟩ := a
  exact ⟨_, _, _, hs _ _ hb, by simpa using hj⟩
theorem RS.src {R : HP} {sz m t e' : Nat} {v : Value} {xs : List Value} (h : RS R sz v m xs) (hs : Sub R (hp w)) (hk : P.underlying t = some (.slice e')) (h1 : ∀ u ∈ xs, u.oneCell' = true) : Src P sz t v m xs w := by
  obtain ⟨hl, a, cap, rfl, h3, h4⟩ := h
  by_cases hm : 0 < m
  · obtain ⟨b, off, rfl, e2⟩ := h4 hm
    exact Src.ofSlice w hk _ _ _ _ hl (fun j u hj => by rw [add_mk]; exact e2.cell hs hj) h1
  · have : m = 0 := by omega
    subst this
    have : xs = [] := by simpa using hl
    subst this
    cases a with
    | none => exact Src.ofNil w hk cap
    | some a => exact Src.ofSlice w hk _ _ _ _ hl (fun j u hj => by simp at hj) h1
theorem x_lenRS {R : HP} {argO : Operand} {t el : TypeId} {sz m : Nat} {v : Value} {xs : List Value} (hx : ev n e argO = v) (h : RS R sz v m xs) (hu : P.underlying t = some (.slice el)) :
    (execOp (ev n e) ⟨d, .call { callee := .builtin .len, args := #[argO], argTypes := #[t] }, ty, pos, af, g⟩).run P w = .ok (.value (.int .i64 m)) w := by
  obtain ⟨a, cap, rfl, _⟩ := h.len
  exact x_lenS hx hu
theorem x_b2sRS {R : HP} {s t el m : Nat} {x : Operand} {v : Value} {ns : List Int} (hx : ev n e x = v) (h : RS R 1 v m (bytesV ns)) (hsub : Sub R (hp w)) (hs : P.underlying s = some (.slice el)) (he : P.underlying el = some (.int .u8)) (ht : P.underlying t = some .string) :
    (execOp (ev n e) ⟨d, .convert s t x, ty, pos, af, g⟩).run P w = .ok (.value (.string (strN ns))) w := by
  have hl : ns.length = m := by have := h.1; simpa [bytesV] using this
  by_cases hm : 0 < m
  · obtain ⟨b, off, cap, rfl, _, hc⟩ := h.at_ hm
    exact x_b2s hx hs he ht hl (fun j v hj => hc.cell hsub hj)
  · obtain ⟨a, cap, rfl, _⟩ := h.len
    have : m = 0 := by omega
    subst this
    have : ns = [] := by simpa using hl
    subst this
    cases a with
    | none => exact x_b2s_nil hx hs he ht
    | some a =>
      simp only [execOp]
      rw [hx]
      refine run_v _ ?_
      rw [run_convert_bytes_string w s t el _ _ _ hs he ht]
      exact run_bytesToString w a 0 cap [] (by simp [loadCells, loadCellsFrom])
/-! ### A slice of one's own -/
theorem Holds.sl_RSw (h : Holds w l) (i : Nat) {T sz m : Nat} {v : Value} {xs : List Value} (hi : l[i]? = some (sl T sz v m xs)) : RS (hp w) sz v m xs := by
  obtain ⟨h', s, a⟩ := Sat.at i hi h
  exact sl_RS a s
/-! ### Lending what is ours to a call that only reads -/
theorem Tri.lend {f : FuncId} {args : Array Value} {R : HP} {A : SP} {pre : List SP} {Qc : Value → List SP → Prop} (h : ∀ h0 : HP, A h0 → Dis R h0 → Tri P f args (un R h0) pre Qc) :
    Tri P f args R (A :: pre) fun v post => ∃ post', post = A :: post' ∧ Qc v post' := by
  intro w F H
  obtain ⟨h0, a, dd, H'⟩ := Holds.lend H
  refine (h h0 a dd w F H').mono fun r w' ⟨v, post, er, q, s, hh⟩ => ⟨v, A :: post, er, ⟨post, rfl, q⟩, s, ?_⟩
  exact Holds.back a dd hh
end
end Go.Proofs.YtlnihndjepjagaaGreat.Gw
set_option linter.unusedVariables false
set_option linter.unusedSimpArgs false
namespace Go.Proofs.YtlnihndjepjagaaGreat.Gw
open Go Go.RowKit Go.ChangeShapes Go.WideShapes Go.ChangeAt
section
variable {H : Type} {enc : TypeId × Value → H} {P : Program} {w : World} {base : Nat} {spare : Nat → Bool} {held : Bool} {t : TypeId} {fuel n : Nat} {cs : List Value} {c : Value}
def Reads (enc : TypeId × Value → H) (P : Program) (w : World) (base : Nat) (spare : Nat → Bool) (held : Bool) (t : TypeId) (cs : List Value) : Prop := ∃ fuel y, DataW.trod enc P w base spare held fuel t cs = some y
theorem inv_int {k : IntKind} (hu : P.underlying t = some (.int k)) (h : Reads enc P w base spare held t [c]) : ∃ a, c = .int k a ∧ (Lit.int k a).wf = true := by
  obtain ⟨fuel, y, h⟩ := h
  obtain ⟨a, e, _, wf⟩ := DataW.trod_int hu h
  simp at e
  exact ⟨a, e, wf⟩
theorem inv_bool (hu : P.underlying t = some .bool) (h : Reads enc P w base spare held t [c]) : ∃ a, c = .bool a := by
  obtain ⟨fuel, y, h⟩ := h
  cases fuel with
  | zero => simp [DataW.trod] at h
  | succ m =>
    unfold DataW.trod at h
    rw [hu] at h
    split at h <;> simp_all
theorem inv_string (hu : P.underlying t = some .string) (h : Reads enc P w base spare held t [c]) : ∃ s : ByteArray, c = .string s ∧ s.size ≤ maxLen := by
  obtain ⟨fuel, y, h⟩ := h
  cases fuel with
  | zero => simp [DataW.trod] at h
  | succ m =>
    unfold DataW.trod at h
    rw [hu] at h
    split at h <;> simp_all
theorem mapM_all {α β : Type} {f : α → Option β} : ∀ {l : List α} {r : List β}, l.mapM f = some r → ∀ x ∈ l, ∃ y, f x = some y
  | [], _, _, x, hx => by cases hx
  | a :: l, r, h, x, hx => by
    rw [List.mapM_cons] at h
    cases ha : f a with
    | none => rw [ha] at h; cases h
    | some b =>
      rw [ha] at h
      cases hl : l.mapM f with
      | none => rw [hl] at h; cases h
      | some bs =>
        rcases List.mem_cons.1 hx with rfl | hx
        · exact ⟨b, ha⟩
        · exact mapM_all hl x hx
theorem reads_of_trod {v : Value} {d : DataW H} {ps : List MemPlace} (h : DataW.Trod enc P w base spare held t v d ps) : Reads enc P w base spare held t v.cells.toList := by
  obtain ⟨fuel, h⟩ := h
  exact ⟨fuel, _, h⟩
end
end Go.Proofs.YtlnihndjepjagaaGreat.Gw
set_option linter.unusedVariables false
set_option linter.unusedSimpArgs false
namespace Go.Proofs.YtlnihndjepjagaaGreat.Gw
open Go Go.RowKit
section
variable {P : Program} {n : Nat} {e : Env} {w : World} {K : Value → World → Prop} {Q : Exit → Act → World → Prop} {ops : Array Oper} {rest : List Oper} {ds : List Deferred}
  {d : Option Nat} {ty : TypeId} {pos : String} {af : Array Edge} {g : Option (Nat × Bool)} {l : List SP}
def sb : Value → Nat
  | .slice (some ⟨b, _, _⟩) _ _ => b
  | _ => 0
def so : Value → Nat
  | .slice (some ⟨_, o, _⟩) _ _ => o
  | _ => 0
theorem RS.rc {R : HP} {sz m : Nat} {v : Value} {xs : List Value} (h : RS R sz v m xs) : RC R (sb v) (so v) xs := by
  obtain ⟨hl, a, cap, rfl, h3, h4⟩ := h
  by_cases hm : 0 < m
  · obtain ⟨b, off, rfl, e2⟩ := h4 hm
    exact e2
  · have : m = 0 := by omega
    subst this
    have : xs = [] := by simpa using hl
    subst this
    intro j u hj
    simp at hj
theorem RS.val {R : HP} {sz m : Nat} {v : Value} {xs : List Value} (h : RS R sz v m xs) (hm : 0 < m) : ∃ cap, v = .slice (some ⟨sb v, so v, none⟩) m cap := by
  obtain ⟨hl, a, cap, rfl, h3, h4⟩ := h
  obtain ⟨b, off, rfl, e2⟩ := h4 hm
  exact ⟨cap, rfl⟩
theorem RS.set_ {R : HP} {sz m m' : Nat} {v : Value} {xs xs' : List Value} (h : RS R sz v m xs) (hx : xs = xs') (hm : m = m') : RS R sz v m' xs' := by subst hx; subst hm; exact h
theorem x_idxRS {R : HP} {t el : TypeId} {x y : Operand} {m i sz bb : Nat} {v : Value} {xs : List Value} {z : Option Value} {k' : IntKind} {p : Addr} {ii : Int} (hx : ev n e x = v) (h : RS R sz v m xs) (hy : ev n e y = .int k' ii)
    (hu : P.underlying t = some (.slice el)) (hz : tin P el = some (sz, bb, z)) (h0 : 0 ≤ ii) (hi : ii < m) (hn : ii.toNat = i) (hp : (⟨sb v, so v + i * sz, none⟩ : Addr) = p) :
    (execOp (ev n e) ⟨d, .indexAddr t x y, ty, pos, af, g⟩).run P w = .ok (.value (.pointer (some p))) w := by
  obtain ⟨cap, hv⟩ := h.val (by omega)
  exact x_indexAddr (hx.trans hv) hy hu hz h0 hi hn hp
theorem fm_len {α : Type} {f : α → List Value} {n : Nat} (hn : ∀ x, (f x).length = n) (l : List α) : (l.flatMap f).length = l.length * n := by
  induction l with
  | nil => simp
  | cons a l ih => rw [List.flatMap_cons, List.length_append, hn, ih, List.length_cons, Nat.add_mul]; omega
theorem fm_drop {α : Type} {f : α → List Value} {n : Nat} (hn : ∀ x, (f x).length = n) : ∀ {l : List α} {k : Nat} {x : α}, l[k]? = some x → (l.flatMap f).drop (k * n) = f x ++ (l.drop (k + 1)).flatMap f
  | [], k, x, h => by simp at h
  | a :: l, 0, x, h => by
    simp only [List.getElem?_cons_zero, Option.some.injEq] at h
    subst h
    simp
  | a :: l, k + 1, x, h => by
    have ih := fm_drop hn (l := l) (k := k) (x := x) (by simpa using h)
    rw [List.flatMap_cons, Nat.add_mul, Nat.one_mul, Nat.add_comm, ← List.drop_drop, List.drop_left' (hn a), ih]
    simp
theorem fm_cell {α : Type} {f : α → List Value} {n : Nat} (hn : ∀ x, (f x).length = n) {l : List α} {k : Nat} {x : α} (hk : l[k]? = some x) {i : Nat} {u : Value} (hu : (f x)[i]? = some u) : (l.flatMap f)[k * n + i]? = some u := by
  rw [← List.getElem?_drop, fm_drop hn hk, List.getElem?_append_left (List.getElem?_eq_some_iff.1 hu).1]
  exact hu
theorem fm_cells {α : Type} {f : α → List Value} {n : Nat} (hn : ∀ x, (f x).length = n) {l : List α} {k : Nat} {x : α} (hk : l[k]? = some x) {i : Nat} {vs : List Value} (hv : ((f x).drop i).take vs.length = vs) :
    ((l.flatMap f).drop (k * n + i)).take vs.length = vs := by
  have hlen : vs.length ≤ ((f x).drop i).length := by
    have := congrArg List.length hv
    rw [List.length_take] at this
    omega
  rw [← List.drop_drop, fm_drop hn hk, List.drop_append, List.take_append_of_le_length hlen]
  exact hv
theorem elem_at {α : Type} (l : List α) (k : Nat) (h : k < l.length) : ∃ x, l[k]? = some x ∧ x ∈ l := ⟨l[k], List.getElem?_eq_getElem h, List.getElem_mem h⟩
theorem Holds.freeze (h : Holds w l) (i : Nat) {A : SP} (hi : l[i]? = some A) : ∃ R0 : HP, A R0 ∧ Holds w (l.set i (ro R0)) := by
  obtain ⟨h1, k, s, t, dd, a, r⟩ := Sat.bring i hi h
  refine ⟨h1, a, Sat.back i (A := ro h1) (by simp [(List.getElem?_eq_some_iff.1 hi).1]) ?_⟩
  rw [List.eraseIdx_set_eq]
  exact ⟨h1, k, s, t, dd, Sub.rfl' _, r⟩
theorem Holds.gift {R1 : HP} {A : SP} (h : Holds w (ro R1 :: A :: l)) : ∃ R', Sub R1 R' ∧ (∃ R0, A R0 ∧ Sub R0 R') ∧ Holds w (ro R' :: l) := by
  obtain ⟨h0, a, dd, hh⟩ := Holds.lend h
  exact ⟨un R1 h0, Sub.un_left _ _, ⟨h0, a, Sub.un_right dd⟩, hh⟩
theorem RS.one {R : HP} {sz m : Nat} {v : Value} {xs : List Value} (h : RS R sz v m xs) : v.oneCell' = true := by
  obtain ⟨a, cap, rfl, _⟩ := h.len
  rfl
/-! ### A guard on what was not done -/
theorem yielded_undef {lo : List Oper} {j dj : Nat} (hj : (lo[j]?).bind (·.dst) = some dj) (hn : Nat.blt dj n = true) (hb : e dj = undef) : yielded lo.toArray (mkA n e ds).tmps j = none := by
  unfold yielded
  rw [List.getElem?_toArray, hj]
  have hn' : dj < n := by simpa using hn
  simp only [Option.bind_some, mkA]
  simp [hn', hb, undef]
theorem S_noU {lo : List Oper} {dd j dj : Nat} {c : Bool} {op : Op} (hj : (lo[j]?).bind (·.dst) = some dj) (hn : Nat.blt dj n = true) (hb : e dj = undef)
    (h : wpList P lo.toArray Q rest (mkA n (upd e dd undef) ds) w) :
    wpList P lo.toArray Q (⟨some dd, op, ty, pos, af, some (j, c)⟩ :: rest) (mkA n e ds) w :=
  wpList_step fun K' hK => by
    rw [if_neg (by simp [Region.wanted, yielded_undef (ds := ds) hj hn hb])]
    dsimp only
    rw [put_mkA]
    exact hK _ _ h
theorem A_takeNoU {lo : List Oper} {S : World → Prop} {fuel : Nat} {ls ls' : Array Bool} (i : Nat) {dd j dj : Nat} {c : Bool} {op : Op} (hi : lo[i]? = some ⟨some dd, op, ty, pos, af, some (j, c)⟩) (hs : Region.noSelect lo.toArray = true)
    (hf : Region.free .any lo.toArray ls i = true) (hr : (Region.ready .any lo.toArray ls).contains i = true) (hl : ls.setIfInBounds i true = ls') (hQ : ∀ c a w, Q (.panic c) (a.put (some dd) undef) w → Q (.panic c) a w)
    (hj : (lo[j]?).bind (·.dst) = some dj) (hn : Nat.blt dj n = true) (hb : e dj = undef) (hS : S w)
    (h : wpAnyH P .any lo.toArray Q S fuel ls' (mkA n (upd e dd undef) ds) w) : wpAnyH P .any lo.toArray Q S (fuel + 1) ls (mkA n e ds) w := by
  subst hl
  have hi : lo.toArray[i]? = _ := (List.getElem?_toArray ..).trans hi
  refine wpAnyH_take hi hs hf hr hQ (.inr ⟨by simp [Region.wanted, yielded_undef (ds := ds) hj hn hb], rfl⟩) hS ?_
  rw [put_mkA]; exact h
end
end Go.Proofs.YtlnihndjepjagaaGreat.Gw
set_option linter.unusedVariables false
set_option linter.unusedSimpArgs false
namespace Go.Proofs.YtlnihndjepjagaaGreat.Gw
open Go Go.RowKit Go.ChangeShapes Go.WideShapes Go.ChangeAt
section
variable {H : Type} {enc : TypeId × Value → H} {P : Program} {w : World} {base : Nat} {spare : Nat → Bool} {held : Bool} {t : TypeId} {fuel n : Nat} {cs : List Value} {c : Value}
def ReadsF (enc : TypeId × Value → H) (P : Program) (w : World) (base : Nat) (spare : Nat → Bool) (held : Bool) (fuel : Nat) (t : TypeId) (cs : List Value) : Prop := ∃ y, DataW.trod enc P w base spare held fuel t cs = some y
theorem ReadsF.reads (h : ReadsF enc P w base spare held fuel t cs) : Reads enc P w base spare held t cs := ⟨fuel, h⟩
theorem Reads.some_ (h : Reads enc P w base spare held t cs) : ∃ fuel, ReadsF enc P w base spare held fuel t cs := h
theorem ReadsF.zero (h : ReadsF enc P w base spare held 0 t cs) : False := by
  obtain ⟨y, h⟩ := h
  simp [DataW.trod] at h
theorem inv_structF {fs : Array Field} (hu : P.underlying t = some (.struct fs)) (h : ReadsF enc P w base spare held (fuel + 1) t cs) :
    cs.length = P.cellsOf t ∧ ∀ (i : Nat) (f : Field), fs[i]? = some f → ReadsF enc P w base spare held fuel f.type ((cs.drop f.offset).take (P.cellsOf f.type)) := by
  obtain ⟨y, h⟩ := h
  unfold DataW.trod at h
  rw [hu] at h
  dsimp only at h
  split at h
  · rename_i hl
    refine ⟨hl, fun i f hi => ?_⟩
    cases hm : (fs.toList.mapM fun f => DataW.trod enc P w base spare held fuel f.type ((cs.drop f.offset).take (P.cellsOf f.type))) with
    | none => rw [hm] at h; cases h
    | some r =>
      obtain ⟨y, hy⟩ := mapM_all hm f (by simpa using Array.mem_of_getElem? hi)
      exact ⟨y, hy⟩
  · cases h
theorem fld1F {fs : Array Field} (hf : ∀ (i : Nat) (f : Field), fs[i]? = some f → ReadsF enc P w base spare held fuel f.type ((cs.drop f.offset).take (P.cellsOf f.type))) (i : Nat) {f : Field} (hi : fs[i]? = some f)
    (hC : P.cellsOf f.type = 1) (hc : cs[f.offset]? = some c) : ReadsF enc P w base spare held fuel f.type [c] := by
  have := hf i f hi
  rw [hC] at this
  have e : (cs.drop f.offset).take 1 = [c] := by
    rw [List.take_one, List.head?_drop, hc]
    rfl
  rwa [e] at this
theorem inv_sliceF {e : TypeId} (hu : P.underlying t = some (.slice e)) (h : ReadsF enc P w base spare held (fuel + 1) t [c]) :
    c = .slice none 0 0 ∨ ∃ a len cap, c = .slice (some a) len cap ∧ len ≤ cap ∧ cap ≤ maxLen ∧ ∀ i, i < len → ∃ xs, w.cells? base (a.add (i * P.cellsOf e)) (P.cellsOf e) = some xs ∧ ReadsF enc P w base spare held fuel e xs := by
  obtain ⟨y, h⟩ := h
  unfold DataW.trod at h
  rw [hu] at h
  split at h
  all_goals (first | (rename_i h1 h2; cases h1; done) | (rename_i h1; cases h1; done) | (cases h; done) | skip)
  · rename_i h1 h2
    simp only [List.cons.injEq, and_true] at h2
    exact .inl h2
  · rename_i e' a len cap h1 h2
    simp only [Option.some.injEq, TypeDesc.slice.injEq] at h1
    subst h1
    simp only [List.cons.injEq, and_true] at h2
    subst h2
    refine .inr ⟨a, len, cap, rfl, ?_⟩
    dsimp only at h
    split at h
    · rename_i hb
      refine ⟨hb.2.1, hb.2.2, fun i hi => ?_⟩
      rw [Option.bind_eq_some_iff] at h
      obtain ⟨elems, he, _⟩ := h
      obtain ⟨z, hz⟩ := mapM_all he i (List.mem_range.2 hi)
      rw [Option.bind_eq_some_iff] at hz
      obtain ⟨xs, h3, h4⟩ := hz
      exact ⟨xs, h3, z, h4⟩
    · cases h
theorem mapM_idx {α : Type} {f : Nat → Option α} : ∀ {n : Nat} {r : List α}, (List.range n).mapM f = some r → ∀ (i : Nat) (u : α), r[i]? = some u → f i = some u := by
  have gen : ∀ (l : List Nat) (r : List α), l.mapM f = some r → ∀ (i : Nat) (u : α), r[i]? = some u → ∃ j, l[i]? = some j ∧ f j = some u := by
    intro l
    induction l with
    | nil =>
      intro r h i u hi
      rw [List.mapM_nil] at h
      cases h
      simp at hi
    | cons a l ih =>
      intro r h i u hi
      rw [List.mapM_cons] at h
      cases ha : f a with
      | none => rw [ha] at h; cases h
      | some b =>
        rw [ha] at h
        cases hl : l.mapM f with
        | none => rw [hl] at h; cases h
        | some bs =>
          rw [hl] at h
          cases h
          cases i with
          | zero => exact ⟨a, rfl, by simpa using ha.trans (by simpa using hi)⟩
          | succ i =>
            obtain ⟨j, h1, h2⟩ := ih bs hl i u (by simpa using hi)
            exact ⟨j, by simpa using h1, h2⟩
  intro n r h i u hi
  obtain ⟨j, h1, h2⟩ := gen _ _ h i u hi
  have hj := List.getElem?_eq_some_iff.1 h1
  obtain ⟨hl, he⟩ := hj
  simp at he
  subst he
  exact h2
theorem cell_block {a : Addr} {m : Nat} {u : Value} (h : w.cell? (a.add m) = some u) : ∃ cs T fr, hp w a.block = some (.cells cs T fr) ∧ cs[a.off + m]? = some u ∧ (m = 0 → a.spot = none) := by
  unfold World.cell? at h
  have hb : (a.add m).block = a.block := by unfold Addr.add; split <;> rfl
  have ho : (a.add m).off = a.off + m := by
    unfold Addr.add
    split
    · rename_i h0; subst h0; rfl
    · rfl
  rw [hb, ho] at h
  split at h
  · rename_i cs T fr he
    split at h
    · cases h
    · rename_i hs
      refine ⟨cs, T, fr, he, h, fun h0 => ?_⟩
      subst h0
      simp [Addr.add] at hs
      exact hs
  · cases h
theorem open_list {α : Type} (F : α → List Value) (PP : α → Prop) {e : TypeId} (hn : P.cellsOf e = n) (hpos : 0 < n) (hF : ∀ x, (F x).length = n) (hu : P.underlying t = some (.slice e))
    (hel : ∀ xs, ReadsF enc P w base spare held fuel e xs → ∃ x, xs = F x ∧ PP x) (h : ReadsF enc P w base spare held (fuel + 1) t [c]) :
    ∃ (a : Option Addr) (len cap : Nat) (l : List α), c = .slice a len cap ∧ RS (hp w) n c l.length (l.flatMap F) ∧ (∀ x ∈ l, PP x) ∧ l.length ≤ maxLen := by
  rcases inv_sliceF hu h with rfl | ⟨a, len, cap, rfl, h1, h2, h3⟩
  · exact ⟨none, 0, 0, [], rfl, RS.nil _ _, fun x hx => (by cases hx), Nat.zero_le _⟩
  · subst hn
    have hx : ∀ i : Fin len, ∃ x, w.cells? base (a.add (i * P.cellsOf e)) (P.cellsOf e) = some (F x) ∧ PP x := fun i => by
      obtain ⟨xs, e1, e2⟩ := h3 i i.2
      obtain ⟨x, rfl, hp⟩ := hel xs e2
      exact ⟨x, e1, hp⟩
    have hl : ∃ l : List α, l.length = len ∧ ∀ i x, l[i]? = some x → w.cells? base (a.add (i * P.cellsOf e)) (P.cellsOf e) = some (F x) ∧ PP x := by
      refine ⟨List.ofFn fun i : Fin len => Classical.choose (hx i), List.length_ofFn, fun i x hi => ?_⟩
      rw [List.getElem?_ofFn] at hi
      split at hi
      · rename_i hlt
        cases hi
        exact Classical.choose_spec (hx ⟨i, hlt⟩)
      · cases hi
    obtain ⟨l, rfl, hl⟩ := hl
    refine ⟨some a, l.length, cap, l, rfl, ⟨fm_len hF l, some a, cap, rfl, h1, fun hm => ?_⟩, fun x hx => ?_, Nat.le_trans h1 h2⟩
    · have key : ∀ k x, l[k]? = some x → ∀ i u, (F x)[i]? = some u → ∃ cs T fr, hp w a.block = some (.cells cs T fr) ∧ cs[a.off + (k * P.cellsOf e + i)]? = some u ∧ (k * P.cellsOf e + i = 0 → a.spot = none) := by
        intro k x hk i u hi
        have hc := (hl k x hk).1
        unfold World.cells? at hc
        split at hc
        · have hc := mapM_idx hc i u hi
          by_cases hi0 : i = 0
          · subst hi0
            have : (a.add (k * P.cellsOf e)).add 0 = a.add (k * P.cellsOf e + 0) := by simp [Addr.add]
            rw [this] at hc
            exact cell_block hc
          · have : (a.add (k * P.cellsOf e)).add i = a.add (k * P.cellsOf e + i) := by
              by_cases hk0 : k * P.cellsOf e = 0
              · rw [hk0]; simp [Addr.add]
              · simp [Addr.add, hi0, hk0, Nat.add_assoc]
            rw [this] at hc
            exact cell_block hc
        · cases hc
      obtain ⟨b, off, spot⟩ := a
      have h0 : spot = none := by
        obtain ⟨x, hx0, _⟩ := elem_at l 0 hm
        have hlen := hF x
        obtain ⟨cs, T, fr, _, _, e3⟩ := key 0 x hx0 0 _ (List.getElem?_eq_getElem (by omega))
        exact e3 (by simp)
      subst h0
      refine ⟨b, off, rfl, fun j u hj => ?_⟩
      have hjl : j < (l.flatMap F).length := (List.getElem?_eq_some_iff.1 hj).1
      rw [fm_len hF] at hjl
      have hk : j / P.cellsOf e < l.length := Nat.div_lt_of_lt_mul (by rwa [Nat.mul_comm] at hjl)
      obtain ⟨x, hkx, _⟩ := elem_at l _ hk
      have hi : j % P.cellsOf e < (F x).length := by rw [hF]; exact Nat.mod_lt _ hpos
      have hdm : j / P.cellsOf e * P.cellsOf e + j % P.cellsOf e = j := by rw [Nat.mul_comm]; exact Nat.div_add_mod _ _
      have e1 := fm_cell hF hkx (List.getElem?_eq_getElem hi)
      rw [hdm, hj] at e1
      obtain ⟨cs, T, fr, e2, e3, _⟩ := key _ x hkx _ _ (List.getElem?_eq_getElem hi)
      rw [hdm] at e3
      exact ⟨cs, T, fr, e2, by rw [e3, ← e1]⟩
    · obtain ⟨i, hi, rfl⟩ := List.getElem_of_mem hx
      exact (hl i _ (List.getElem?_eq_getElem hi)).2
end
end Go.Proofs.YtlnihndjepjagaaGreat.Gw
set_option linter.unusedVariables false
set_option linter.unusedSimpArgs false
namespace Go.Proofs.YtlnihndjepjagaaGreat.Gw
open Go Go.RowKit
section
variable {P : Program} {n : Nat} {e : Env} {w : World} {K : Value → World → Prop} {Q : Exit → Act → World → Prop} {ops : Array Oper} {rest : List Oper} {ds : List Deferred}
  {d : Option Nat} {ty : TypeId} {pos : String} {af : Array Edge} {g : Option (Nat × Bool)} {l : List SP}
theorem T_invokeW {f : FuncId} {x : Operand} {lo : List Operand} {t : TypeId} {v recv : Value} {nm : String} {al : List Value} {at_ : Array TypeId} (hx : ev n e x = .iface t v)
    (hm : ∀ w, (method (P.types.size + Made.depth) t v nm).run P w = .ok (f, recv) w) (ha : recv :: lo.map (ev n e) = al) (hc : callable P f = true)
    (h : Calls P f al.toArray w fun r w' => ∃ v, r = .returned v ∧ K v w') : Stp P n e ⟨d, .call { callee := .invoke x nm, args := lo.toArray, argTypes := at_ }, ty, pos, af, g⟩ w K := by
  subst ha
  refine .inr (.inr ⟨f, _, w, ?_, h⟩)
  simp only [execOp, resolve, hx, Sem.run_bind, Sem.run_pure, Result.andThen_ok, invoke]
  simp [callMethod, hm, run_callFunc hc, List.take_of_length_le]
theorem T_invoke {f : FuncId} {x : Operand} {lo : List Operand} {t : TypeId} {v recv : Value} {nm : String} {al : List Value} {at_ : Array TypeId} {R : HP} {pre F : List SP} {Qc : Value → List SP → Prop} (hx : ev n e x = .iface t v)
    (hm : ∀ w, (method (P.types.size + Made.depth) t v nm).run P w = .ok (f, recv) w) (ha : recv :: lo.map (ev n e) = al) (hc : callable P f = true)
    (ht : Tri P f al.toArray R pre Qc) (h : Holds w (ro R :: (pre ++ F)))
    (k : ∀ v post w', Qc v post → Same w w' → Holds w' (ro R :: (post ++ F)) → K v w') : Stp P n e ⟨d, .call { callee := .invoke x nm, args := lo.toArray, argTypes := at_ }, ty, pos, af, g⟩ w K :=
  T_invokeW hx hm ha hc ((ht w F h).mono fun r w' ⟨v, post, er, q, s, hh⟩ => ⟨v, er, k v post w' q s hh⟩)
def slc : Value → Nat → Nat → Nat → Value
  | .slice a _ c, l, h, sz => .slice (if c = l then a else a.map (·.add (l * sz))) (h - l) (c - l)
  | v, _, _, _ => v
theorem RS.slc {R : HP} {sz m l h : Nat} {v : Value} {xs : List Value} (hr : RS R sz v m xs) (h1 : l ≤ h) (h2 : h ≤ m) : RS R sz (Gw.slc v l h sz) (h - l) ((xs.drop (l * sz)).take ((h - l) * sz)) := by
  obtain ⟨e1, a, cap, rfl, e2, e3⟩ := hr
  have hm : h * sz ≤ m * sz := Nat.mul_le_mul_right _ h2
  have hs : (h - l) * sz = h * sz - l * sz := Nat.sub_mul ..
  refine ⟨by rw [List.length_take, List.length_drop, e1]; omega, _, _, rfl, by omega, fun hp => ?_⟩
  obtain ⟨b, off, rfl, rc⟩ := e3 (by omega)
  refine ⟨b, off + l * sz, ?_, (rc.drop _).take _⟩
  rw [if_neg (by omega)]
  simp [add_mk]
theorem bytesV_sub (ns : List Int) (l k : Nat) : ((bytesV ns).drop (l * 1)).take (k * 1) = bytesV ((ns.drop l).take k) := by simp [bytesV]
theorem RS.slcB {R : HP} {m l h : Nat} {v : Value} {ns : List Int} (hr : RS R 1 v m (bytesV ns)) (h1 : l ≤ h) (h2 : h ≤ m) : RS R 1 (Gw.slc v l h 1) (h - l) (bytesV ((ns.drop l).take (h - l))) := by
  have := hr.slc h1 h2
  rwa [bytesV_sub] at this
theorem x_sliceRS {R : HP} {t el : TypeId} {x : Operand} {lo hi : Option Operand} {v : Value} {sz sz' m bb l h : Nat} {xs : List Value} {z : Option Value} (hx : ev n e x = v) (hr : RS R sz' v m xs) (hu : P.underlying t = some (.slice el))
    (hz : tin P el = some (sz, bb, z)) (hm : h ≤ m) (hh : (match hi.map (ev n e) with | none => h = m | some v => ∃ k i, v = .int k i ∧ 0 ≤ i ∧ i ≤ m ∧ i.toNat = h))
    (hl : (match lo.map (ev n e) with | none => l = 0 | some v => ∃ k i, v = .int k i ∧ 0 ≤ i ∧ i ≤ h ∧ i.toNat = l)) :
    (execOp (ev n e) ⟨d, .slice t x lo hi none, ty, pos, af, g⟩).run P w = .ok (.value (Gw.slc v l h sz)) w := by
  obtain ⟨a, cap, rfl, hc⟩ := hr.len
  refine x_slice hx hu hz ?_ hl rfl
  cases hi with
  | none => exact hh
  | some o =>
    obtain ⟨k, i, e1, e2, e3, e4⟩ := hh
    exact ⟨k, i, e1, e2, by omega, e4⟩
theorem one_bytes (ns : List Int) : ∀ u ∈ bytesV ns, u.oneCell' = true := by
  intro u hu
  simp only [bytesV, List.mem_map] at hu
  obtain ⟨a, _, rfl⟩ := hu
  rfl
theorem bytesV_len (ns : List Int) : (bytesV ns).length = ns.length := by simp [bytesV]
theorem RS.blen {R : HP} {m : Nat} {v : Value} {ns : List Int} (h : RS R 1 v m (bytesV ns)) : ns.length = m := by have := h.1; rw [bytesV_len] at this; omega
end
end Go.Proofs.YtlnihndjepjagaaGreat.Gw
set_option linter.unusedVariables false
set_option linter.unusedSimpArgs false
set_option linter.unusedSectionVars false
namespace Go.Proofs.YtlnihndjepjagaaGreat.Gw
open Go Go.RowKit
theorem lcons {α : Type} {a b : α} {l m : List α} (h : a = b) (k : l = m) : a :: l = b :: m := by subst h; subst k; rfl
theorem map_at {α β : Type} {f : α → β} {l : List α} {k : Nat} {x : α} (h : l[k]? = some x) : (l.map f)[k]? = some (f x) := by simp [h]
theorem cl_RSn {b T k sz cap : Nat} {xs : List Value} {h R : HP} (a : cl b T xs h) (hs : Sub h R) (hl : xs.length = k * sz) (hc : k ≤ cap) : RS R sz (.slice (some ⟨b, 0, none⟩) k cap) k xs :=
  ⟨hl, _, _, rfl, hc, fun _ => ⟨b, 0, rfl, cl_RC a hs⟩⟩
/-! ### Pieces made of pieces -/
def grp (l : List SP) : SP := fun h => Sat l h
theorem Holds.ungrp {w : World} {l m : List SP} (h : Holds w (grp l :: m)) : Holds w (l ++ m) := by
  obtain ⟨h1, k, s, t, d, a, r⟩ := h
  exact Sat.append.2 ⟨h1, k, s, t, d, a, r⟩
theorem Holds.grp {w : World} {l m : List SP} (h : Holds w (l ++ m)) : Holds w (Gw.grp l :: m) := by
  obtain ⟨h1, k, s, t, d, a, r⟩ := Sat.append.1 h
  exact ⟨h1, k, s, t, d, a, r⟩
/-! ### A map of one's own: its keys are 'K a', for things a that can be told apart -/
section
variable {α : Type} [DecidableEq α]
def Born (es : List MapEntry) (clock : Nat) : Prop := (∀ e ∈ es, e.born < clock) ∧ es.Pairwise fun a b => a.born ≠ b.born
def mp (K : α → Value) (b : Nat) (m : List (α × Value)) : SP := fun h => ∃ es clock, h b = some (.map es clock) ∧ es.toList.map (fun e => (e.key, e.val)) = m.map (fun p => (K p.1, p.2)) ∧ Born es.toList clock
def mget (m : List (α × Value)) (a : α) : Option Value := (m.find? fun p => p.1 = a).map (·.2)
def mset (m : List (α × Value)) (a : α) (v : Value) : List (α × Value) := if m.any (fun p => p.1 = a) then m.map (fun p => if p.1 = a then (p.1, v) else p) else m ++ [(a, v)]
structure KeyKind (P : Program) (k : TypeId) (K : α → Value) : Prop where
  inj : ∀ a b, K a = K b → a = b
  check : ∀ (w : World) (em : Bool) a, (Instr.checkKey em 10000 k (K a)).run P w = .ok () w
  find : ∀ (w : World) a (es : List MapEntry) (m : List α), es.map (·.key) = m.map K →
    (Instr.findKey k (K a) es).run P w = .ok ((m.findIdx? (· = a)).bind fun i => (es[i]?).map fun e => (i, e.val)) w
  stays : ∀ (w : World) a, (Instr.keyThatStays (K a) (K a)).run P w = .ok (K a) w
variable {P : Program} {w : World} {l : List SP} {n : Nat} {e : Env} {K' : Value → World → Prop} {d : Option Nat} {ty : TypeId} {pos : String} {af : Array Edge} {g : Option (Nat × Bool)}
theorem findNow_kind {D : TypeDesc} {K : α → Value} (hs : ∀ a b, Instr.sameNow D (K a) (K b) = some (decide (a = b))) (a : α) : ∀ (es : List MapEntry) (m : List α) (i : Nat), es.map (·.key) = m.map K →
    Instr.findNow D (K a) es i = some ((m.findIdx? (· = a)).bind fun j => (es[j]?).map fun e => (i + j, e.val))
  | [], [], i, _ => by simp [Instr.findNow]
  | [], _ :: _, i, h => by simp at h
  | _ :: _, [], i, h => by simp at h
  | e :: es, x :: m, i, h => by
    simp only [List.map_cons, List.cons.injEq] at h
    have ih := findNow_kind hs a es m (i + 1) h.2
    unfold Instr.findNow
    rw [h.1, hs]
    by_cases hx : x = a
    · subst hx
      simp [List.findIdx?_cons]
    · have hx' : ¬ a = x := fun e => hx e.symm
      simp only [hx', decide_false, List.findIdx?_cons, hx]
      rw [ih]
      cases hm : List.findIdx? (fun x => decide (x = a)) m with
      | none => simp
      | some j => simp [Nat.add_assoc, Nat.add_comm 1 j]
theorem sameBits_int (q : IntKind) (a : Int) (n : Nat) : Instr.sameBits n (.int q a) (.int q a) = true := by cases n <;> simp [Instr.sameBits]
theorem sameBits_string (a : ByteArray) (n : Nat) : Instr.sameBits n (.string a) (.string a) = true := by cases n <;> simp [Instr.sameBits, Go.MapKept.bytes_beq]
theorem checkKey_int {k : TypeId} {q : IntKind} (hk : P.underlying k = some (.int q)) (em : Bool) (v : Value) (n : Nat) : (Instr.checkKey em (n + 1) k v).run P w = .ok () w := by simp [Instr.checkKey, run_underlying hk]
theorem checkKey_string {k : TypeId} (hk : P.underlying k = some .string) (em : Bool) (v : Value) (n : Nat) : (Instr.checkKey em (n + 1) k v).run P w = .ok () w := by simp [Instr.checkKey, run_underlying hk]
theorem ba_beq (a b : ByteArray) : (a == b) = decide (a = b) := by
  rw [Bool.eq_iff_iff, Go.MapKept.bytes_beq]; simp
theorem KeyKind.int {k : TypeId} {q : IntKind} (hk : P.underlying k = some (.int q)) : KeyKind P k (Value.int q) where
  inj := fun a b h => by injection h
  check := fun w em a => checkKey_int hk em _ 9999
  find := fun w a es m h => by
    have := findNow_kind (D := .int q) (K := Value.int q) (fun a b => by simp only [Instr.sameNow, if_true]; rw [Bool.beq_eq_decide_eq]) a es m 0 h
    simp only [Instr.findKey, Sem.run_bind, run_underlying hk, Result.andThen_ok, this]
    simp
  stays := fun w a => by
    simp only [Instr.keyThatStays, sameBits_int, if_true]; rfl
theorem KeyKind.string {k : TypeId} (hk : P.underlying k = some .string) : KeyKind P k Value.string where
  inj := fun a b h => by injection h
  check := fun w em a => checkKey_string hk em _ 9999
  find := fun w a es m h => by
    have := findNow_kind (D := .string) (K := Value.string) (fun a b => by simp only [Instr.sameNow]; rw [ba_beq]) a es m 0 h
    simp only [Instr.findKey, Sem.run_bind, run_underlying hk, Result.andThen_ok, this]
    simp
  stays := fun w a => by
    simp only [Instr.keyThatStays, sameBits_string, if_true]; rfl
theorem Holds.mp_block {K : α → Value} (h : Holds w l) (i : Nat) {b : Nat} {m : List (α × Value)} (hi : l[i]? = some (mp K b m)) :
    ∃ es clock, w.heap[b]? = some (.map es clock) ∧ es.toList.map (fun e => (e.key, e.val)) = m.map (fun p => (K p.1, p.2)) ∧ Born es.toList clock := by
  obtain ⟨h', s, es, clock, a, b, c⟩ := Sat.at i hi h
  exact ⟨es, clock, s _ _ a, b, c⟩
def MpRd (K : α → Value) (b : Nat) (m : List (α × Value)) (w : World) : Prop := ∃ es clock, w.heap[b]? = some (.map es clock) ∧ es.toList.map (fun e => (e.key, e.val)) = m.map (fun p => (K p.1, p.2)) ∧ Born es.toList clock
theorem Holds.mprd {K : α → Value} (h : Holds w l) (i : Nat) {b : Nat} {m : List (α × Value)} (hi : l[i]? = some (mp K b m)) : MpRd K b m w := h.mp_block i hi
theorem run_getObj {r : Nat} {es : Array MapEntry} {clock : Nat} (h : w.heap[r]? = some (.map es clock)) : (getObj r).run P w = .ok (.map es clock) w := by simp [getObj, Sem.run, h]
theorem mp_find {K : α → Value} {es : List MapEntry} {m : List (α × Value)} (h : es.map (fun e => (e.key, e.val)) = m.map (fun p => (K p.1, p.2))) (a : α) :
    (((m.map (·.1)).findIdx? (· = a)).bind fun i => (es[i]?).map fun e => (i, e.val)) = ((m.findIdx? fun p => p.1 = a).bind fun i => (m[i]?).map fun p => (i, p.2)) := by
  have h1 : (m.map (·.1)).findIdx? (fun x => decide (x = a)) = m.findIdx? (fun p => decide (p.1 = a)) := by rw [List.findIdx?_map]; rfl
  rw [h1]
  cases m.findIdx? (fun p => decide (p.1 = a)) with
  | none => rfl
  | some i =>
    have : (es.map fun e => (e.key, e.val))[i]? = (m.map fun p => (K p.1, p.2))[i]? := by rw [h]
    simp only [List.getElem?_map] at this
    cases h2 : es[i]? <;> cases h3 : m[i]? <;> simp_all
theorem mget_idx (m : List (α × Value)) (a : α) : ((m.findIdx? fun p => p.1 = a).bind fun i => (m[i]?).map fun p => (i, p.2)).map (·.2) = mget m a := by
  unfold mget
  induction m with
  | nil => rfl
  | cons p m ih =>
    by_cases hp : p.1 = a
    · simp [List.findIdx?_cons, hp]
    · simp only [List.findIdx?_cons, hp, decide_false, List.find?_cons]
      rw [← ih]
      cases List.findIdx? (fun p => decide (p.1 = a)) m <;> simp [Function.comp_def]
theorem run_lookup {K : α → Value} {t k el : TypeId} (kk : KeyKind P k K) (ht : P.underlying t = some (.map k el)) {sz bb : Nat} {z : Value} (hz : tin P el = some (sz, bb, some z)) {b : Nat} {m : List (α × Value)} (h : MpRd K b m w) (a : α) (ok : Bool) :
    (Instr.lookup t (.map (some b)) (K a) ok).run P w = .ok (if ok then .tuple #[(mget m a).getD z, .bool (mget m a).isSome] else (mget m a).getD z) w := by
  obtain ⟨es, clock, hb, he, _⟩ := h
  have hkeys : es.toList.map (·.key) = (m.map (·.1)).map K := by
    have := congrArg (List.map (·.1)) he
    simpa [List.map_map, Function.comp_def] using this
  have hf := kk.find w a es.toList (m.map (·.1)) hkeys
  rw [mp_find he a] at hf
  have hg := mget_idx m a
  simp only [Instr.lookup, Sem.run_bind, run_underlying ht, Result.andThen_ok, run_getObj hb, Sem.run_pure, kk.check, hf]
  rw [← hg]
  cases (m.findIdx? fun p => p.1 = a).bind fun i => (m[i]?).map fun p => (i, p.2) with
  | none => simp [run_zeroValue hz]
  | some r => simp
theorem x_lookup {K : α → Value} {t k el : TypeId} {x y : Operand} {b : Nat} {m : List (α × Value)} {a : α} {ok : Bool} {sz bb : Nat} {z v : Value} (hx : ev n e x = .map (some b)) (hy : ev n e y = K a) (kk : KeyKind P k K) (ht : P.underlying t = some (.map k el))
    (hz : tin P el = some (sz, bb, some z)) (h : MpRd K b m w) (hv : (if ok then Value.tuple #[(mget m a).getD z, .bool (mget m a).isSome] else (mget m a).getD z) = v) :
    (execOp (ev n e) ⟨d, .lookup t x y ok, ty, pos, af, g⟩).run P w = .ok (.value v) w := by
  subst hv
  simp only [execOp]
  refine run_v _ ?_
  rw [hx, hy]
  exact run_lookup kk ht hz h a ok
theorem Holds.mp_set {K : α → Value} (h : Holds w l) (i : Nat) {b : Nat} {m m' : List (α × Value)} (hi : l[i]? = some (mp K b m)) {w' : World} {o' : Obj} (hw : w'.heap = w.heap.setIfInBounds b o')
    (ho : ∃ es clock, o' = .map es clock ∧ es.toList.map (fun e => (e.key, e.val)) = m'.map (fun p => (K p.1, p.2)) ∧ Born es.toList clock) : Holds w' (l.set i (mp K b m')) := by
  obtain ⟨es0, clock0, e, _, _⟩ := h.mp_block i hi
  have hb : b < w.heap.size := by
    rcases Nat.lt_or_ge b w.heap.size with x | x
    · exact x
    · rw [Array.getElem?_eq_none x] at e; cases e
  have hw : hp w' = upb (hp w) b o' := by
    refine hp_setBlock _ _ _ _ (by rw [hw]; simp [hb]) (fun c hc => by rw [hw]; simp [Ne.symm hc])
  unfold Holds
  rw [hw]
  refine Sat.upb_at i hi h (fun h ⟨_, _, e', _⟩ => ⟨_, e'⟩) fun h _ => ?_
  obtain ⟨es, clock, rfl, h1, h2⟩ := ho
  exact ⟨es, clock, by simp [upb], h1, h2⟩
theorem mset_none {m : List (α × Value)} {a : α} (h : m.findIdx? (fun p => p.1 = a) = none) (v : Value) : mset m a v = m ++ [(a, v)] := by
  unfold mset
  rw [if_neg]
  rw [List.findIdx?_eq_none_iff] at h
  simp only [List.any_eq_true, not_exists, not_and, decide_eq_true_eq]
  intro p hp hpa
  have := h p hp
  simp [hpa] at this
theorem mset_some {m : List (α × Value)} {a : α} {i : Nat} (h : m.findIdx? (fun p => p.1 = a) = some i) (nd : (m.map (·.1)).Nodup) (v : Value) : ∀ K : α → Value, (mset m a v).map (fun p => (K p.1, p.2)) = (m.map fun p => (K p.1, p.2)).modify i fun p => (K a, v) := by
  intro K
  have hany : m.any (fun p => p.1 = a) = true := by
    rw [List.findIdx?_eq_some_iff_getElem] at h
    obtain ⟨hi, h1, _⟩ := h
    exact List.any_eq_true.2 ⟨m[i], List.getElem_mem hi, h1⟩
  unfold mset
  rw [if_pos hany]
  clear hany
  induction m generalizing i with
  | nil => simp at h
  | cons p m ih =>
    simp only [List.map_cons, List.nodup_cons] at nd
    by_cases hp : p.1 = a
    · simp only [List.findIdx?_cons, hp, decide_true, if_true, Option.some.injEq] at h
      subst h
      simp only [List.map_cons, hp, if_true, List.modify_zero_cons, List.cons.injEq, true_and, List.map_map]
      refine List.map_congr_left fun q hq => ?_
      have : q.1 ≠ a := fun e => nd.1 (hp ▸ e ▸ List.mem_map_of_mem hq)
      simp [this]
    · simp only [List.findIdx?_cons, hp, decide_false] at h
      cases hm : List.findIdx? (fun p => decide (p.1 = a)) m with
      | none => rw [hm] at h; simp at h
      | some j =>
        rw [hm] at h
        simp only [Bool.false_eq_true, if_false, Option.map_some, Option.some.injEq] at h
        subst h
        simp only [List.map_cons, hp, if_false, List.modify_succ_cons]
        rw [ih hm nd.2]
theorem Born.push {es : List MapEntry} {clock : Nat} (h : Born es clock) (k v : Value) : Born (es ++ [⟨k, v, clock⟩]) (clock + 1) := by
  refine ⟨fun x hx => ?_, ?_⟩
  · rcases List.mem_append.1 hx with hx | hx
    · have := h.1 x hx; omega
    · simp only [List.mem_singleton] at hx; subst hx; show clock < clock + 1; omega
  · rw [List.pairwise_append]
    exact ⟨h.2, List.pairwise_singleton _ _, fun a ha b hb => by
      simp only [List.mem_singleton] at hb; subst hb
      have := h.1 a ha
      show a.born ≠ clock
      omega⟩
theorem Born.same {es es' : List MapEntry} {clock : Nat} (h : Born es clock) (e : es'.map (·.born) = es.map (·.born)) : Born es' clock := by
  refine ⟨fun x hx => ?_, ?_⟩
  · have : x.born ∈ es.map (·.born) := e ▸ List.mem_map_of_mem hx
    obtain ⟨y, hy, e2⟩ := List.mem_map.1 this
    rw [← e2]; exact h.1 y hy
  · have h2 : (es.map (·.born)).Pairwise (· ≠ ·) := List.pairwise_map.2 h.2
    rw [← e] at h2
    exact List.pairwise_map.1 h2
theorem run_mapUpdate {K : α → Value} {t k el : TypeId} (kk : KeyKind P k K) (ht : P.underlying t = some (.map k el)) (h : Holds w l) (i : Nat) {b : Nat} {m : List (α × Value)} (hi : l[i]? = some (mp K b m)) (nd : (m.map (·.1)).Nodup) (a : α) (v : Value) :
    ∃ w', (Instr.mapUpdate t (.map (some b)) (K a) v).run P w = .ok () w' ∧ Same w w' ∧ Holds w' (l.set i (mp K b (mset m a v))) := by
  obtain ⟨es, clock, hb, he, hbo⟩ := h.mp_block i hi
  have hkeys : es.toList.map (·.key) = (m.map (·.1)).map K := by
    have := congrArg (List.map (·.1)) he
    simpa [List.map_map, Function.comp_def] using this
  have hf := kk.find w a es.toList (m.map (·.1)) hkeys
  rw [mp_find he a] at hf
  simp only [Instr.mapUpdate, Sem.run_bind, run_underlying ht, Result.andThen_ok, run_getObj hb, kk.check, hf]
  have hlen : es.toList.length = m.length := by simpa using congrArg List.length he
  cases hm : m.findIdx? (fun p => decide (p.1 = a)) with
  | none =>
    simp only [Option.bind_none, Go.MapKept.run_setObj_map _ hb]
    refine ⟨_, rfl, ⟨rfl, rfl, rfl⟩, h.mp_set i hi (o' := .map (es.push ⟨K a, v, clock⟩) (clock + 1)) rfl ⟨_, _, rfl, ?_, ?_⟩⟩
    · rw [mset_none hm]; simp [he]
    · simpa using hbo.push (K a) v
  | some j =>
    have hj : j < m.length := by
      rw [List.findIdx?_eq_some_iff_getElem] at hm
      exact hm.1
    have hj' : j < es.toList.length := by omega
    have hjs : j < es.size := by simpa using hj'
    have hk : (es[j]?).map (·.key) = some (K a) := by
      have h1 := congrArg (fun l : List (Value × Value) => l[j]?) he
      simp only [List.getElem?_map] at h1
      rw [List.findIdx?_eq_some_iff_getElem] at hm
      obtain ⟨_, hp, _⟩ := hm
      have hp' : m[j].1 = a := by simpa using hp
      rw [List.getElem?_eq_getElem hj, List.getElem?_eq_getElem hj'] at h1
      simp only [Option.map_some, Option.some.injEq, Prod.mk.injEq, hp'] at h1
      simp [hjs, ← h1.1]
    simp only [Option.bind_some, List.getElem?_eq_getElem hj, Option.map_some, hk, Option.getD_some, kk.stays, Sem.run_bind, Result.andThen_ok, Go.MapKept.run_setObj_map _ hb]
    refine ⟨_, rfl, ⟨rfl, rfl, rfl⟩, h.mp_set i hi (o' := .map (es.modify j fun e => { e with key := K a, val := v }) clock) rfl ⟨_, _, rfl, ?_, ?_⟩⟩
    · rw [mset_some hm nd v K, ← he, Array.toList_modify]
      apply List.ext_getElem? ; intro q
      simp only [List.getElem?_map, List.getElem?_modify]
      cases es.toList[q]? <;> simp <;> split <;> simp_all
    · refine hbo.same ?_
      rw [Array.toList_modify]
      apply List.ext_getElem? ; intro q
      simp only [List.getElem?_map, List.getElem?_modify]
      cases es.toList[q]? <;> simp <;> split <;> simp_all
theorem T_mapUpdate {K : α → Value} {t k el : TypeId} {x y z : Operand} {b : Nat} {m : List (α × Value)} {a : α} {v : Value} (hx : ev n e x = .map (some b)) (hy : ev n e y = K a) (hz : ev n e z = v) (kk : KeyKind P k K) (ht : P.underlying t = some (.map k el))
    (h : Holds w l) (i : Nat) (hi : l[i]? = some (mp K b m)) (nd : (m.map (·.1)).Nodup) (c : ∀ w', Same w w' → Holds w' (l.set i (mp K b (mset m a v))) → K' undef w') : Stp P n e ⟨d, .mapUpdate t x y z, ty, pos, af, g⟩ w K' := by
  obtain ⟨w', hr, hs, hh⟩ := run_mapUpdate kk ht h i hi nd a v
  refine .inr (.inl ⟨w', ?_, c w' hs hh⟩)
  simp only [execOp, hx, hy, hz]
  simp [hr]
theorem x_lenMp {K : α → Value} {t k el : TypeId} {x : Operand} {b : Nat} {m : List (α × Value)} (hx : ev n e x = .map (some b)) (ht : P.underlying t = some (.map k el)) (h : MpRd K b m w) :
    (execOp (ev n e) ⟨d, .call { callee := .builtin .len, args := #[x], argTypes := #[t] }, ty, pos, af, g⟩).run P w = .ok (.value (.int .i64 (m.length : Int))) w := by
  obtain ⟨es, clock, hb, he, _⟩ := h
  have hlen : es.size = m.length := by simpa using congrArg List.length he
  simp only [execOp, resolve, Sem.run_bind, Sem.run_pure, Result.andThen_ok, invoke, builtin]
  simp [hx, Builtin.len_, run_underlying ht, run_getObj hb, goInt, hlen]
theorem T_makeMap {t : TypeId} (K : α → Value) (h : Holds w l) (c : ∀ b w', Same w w' → Holds w' (mp K b [] :: l) → K' (.map (some b)) w') : Stp P n e ⟨d, .makeMap t none, ty, pos, af, g⟩ w K' := by
  refine T_new (obj := .map #[] 0) (f := fun b => .map (some b)) (A := fun b => mp K b []) ?_ (fun l h => ?_) h c
  · simp only [execOp]; rfl
  · refine Sat.head_map (A := ob w.heap.size (.map #[] 0)) ?_ (h.allocOb (.map #[] 0))
    intro h' a
    exact ⟨#[], 0, a, rfl, (fun x hx => by simp at hx), List.Pairwise.nil⟩
end
end Go.Proofs.YtlnihndjepjagaaGreat.Gw
set_option linter.unusedVariables false
set_option linter.unusedSimpArgs false
set_option linter.unusedSectionVars false
namespace Go.Proofs.YtlnihndjepjagaaGreat.Gw
open Go Go.RowKit
section
variable {P : Program} {n : Nat} {e : Env} {w : World} {K : Value → World → Prop} {d : Option Nat} {ty : TypeId} {pos : String} {af : Array Edge} {g : Option (Nat × Bool)} {l : List SP}
/-! ### Elements of a slice of one's own -/
theorem sl_cell {T sz m : Nat} {v : Value} {xs : List Value} (h : Holds w l) (j : Nat) (hj : l[j]? = some (sl T sz v m xs)) {k : Nat} {u : Value} (hk : xs[k]? = some u) : w.cell? ⟨sb v, so v + k, none⟩ = some u := by
  have hr := h.sl_RSw j hj
  have hlen := hr.1
  have hk' := (List.getElem?_eq_some_iff.1 hk).1
  have hm : 0 < m := by
    rcases Nat.eq_zero_or_pos m with h0 | h0
    · rw [h0, Nat.zero_mul] at hlen; omega
    · exact h0
  obtain ⟨b, off, cap, rfl, _, hc⟩ := hr.at_ hm
  exact hc.cell (Sub.rfl' _) hk
/-! ### A family of blocks of one type -/
theorem Holds.ro_less {R R' : HP} (h : Holds w (ro R' :: l)) (s : Sub R R') : Holds w (ro R :: l) := Sat.head_map (fun _ a => Sub.trans' s a) h
section
variable {H : Type} {enc : TypeId × Value → H} {base : Nat} {spare : Nat → Bool} {held : Bool} {fuel : Nat} {t : TypeId} {xs : List Value}
end
/-! ### What stays readable -/
def SlRd (v : Value) (xs : List Value) (w : World) : Prop := ∀ (k : Nat) (u : Value), xs[k]? = some u → w.cell? ⟨sb v, so v + k, none⟩ = some u
theorem Holds.slrd {T sz m : Nat} {v : Value} {xs : List Value} (h : Holds w l) (j : Nat) (hj : l[j]? = some (sl T sz v m xs)) : SlRd v xs w := fun _ _ hk => sl_cell h j hj hk
theorem SlRd.cells {v : Value} {xs : List Value} (h : SlRd v xs w) (j : Nat) {vs : List Value} (hv : (xs.drop j).take vs.length = vs) : ∀ i u, vs[i]? = some u → w.cell? ((Addr.mk (sb v) (so v + j) none).add i) = some u := by
  intro i u hi
  rw [add_mk, Nat.add_assoc]
  refine h _ _ ?_
  rw [← hv] at hi
  rw [List.getElem?_take] at hi
  split at hi
  · rw [List.getElem?_drop] at hi; exact hi
  · cases hi
/-! ### A method of what a pointer points to -/
theorem T_invokeWw {f : FuncId} {x : Operand} {lo : List Operand} {t : TypeId} {v recv : Value} {nm : String} {al : List Value} {at_ : Array TypeId} (hx : ev n e x = .iface t v)
    (hm : (method (P.types.size + Made.depth) t v nm).run P w = .ok (f, recv) w) (ha : recv :: lo.map (ev n e) = al) (hc : callable P f = true)
    (h : Calls P f al.toArray w fun r w' => ∃ v, r = .returned v ∧ K v w') : Stp P n e ⟨d, .call { callee := .invoke x nm, args := lo.toArray, argTypes := at_ }, ty, pos, af, g⟩ w K := by
  subst ha
  refine .inr (.inr ⟨f, _, w, ?_, h⟩)
  simp only [execOp, resolve, hx, Sem.run_bind, Sem.run_pure, Result.andThen_ok, invoke]
  simp [callMethod, hm, run_callFunc hc, List.take_of_length_le]
end
end Go.Proofs.YtlnihndjepjagaaGreat.Gw
set_option linter.unusedVariables false
set_option linter.unusedSimpArgs false
namespace Go.Proofs.YtlnihndjepjagaaGreat.Gw
open Go Go.RowKit
section
variable {P : Program} {n : Nat} {e : Env} {w : World} {K : Value → World → Prop} {Q : Exit → Act → World → Prop} {ops : Array Oper} {rest : List Oper} {ds : List Deferred}
  {d : Option Nat} {ty : TypeId} {pos : String} {af : Array Edge} {g : Option (Nat × Bool)} {l : List SP}
def ints (u : ByteArray) : List Int := u.data.toList.map fun b => (b.toNat : Int)
theorem byteCells_bytesV (u : ByteArray) : byteCells u = bytesV (ints u) := by simp [byteCells, bytesV, ints]
theorem ints_length (u : ByteArray) : (ints u).length = u.size := by simp [ints]
theorem toList_data (u : ByteArray) : u.toList = u.data.toList := by rw [ByteArray.toList_eq]
end
end Go.Proofs.YtlnihndjepjagaaGreat.Gw
set_option linter.unusedVariables false
set_option linter.unusedSimpArgs false
set_option linter.unusedSectionVars false
namespace Go.Proofs.YtlnihndjepjagaaGreat.Gw
open Go Go.RowKit
section
variable {P : Program} {n : Nat} {e : Env} {w : World} {K : Value → World → Prop} {Q : Exit → Act → World → Prop} {d : Option Nat} {ty : TypeId} {pos : String} {af : Array Edge} {g : Option (Nat × Bool)} {l : List SP} {ds : List Deferred}
theorem shrN {x q : Int} {m : Nat} (h : (2 : Int) ^ m = q) (hq : 0 ≤ q) : x.fdiv (2 ^ m) = x / q := by rw [h, Int.fdiv_eq_ediv_of_nonneg _ hq]
theorem so_add {a b : ByteArray} (h : a.size + b.size ≤ 9223372036854775807) : (Op.stringOp .add a b).run P w = .ok (.string (a ++ b)) w := by
  have : ¬ (((a.size + b.size : Nat) : Int) > IntKind.i64.max) := by
    have : IntKind.i64.max = 9223372036854775807 := by decide
    omega
  simp only [Op.stringOp, this, if_false]; rfl
def Byt (ns : List Int) : Prop := ∀ b ∈ ns, 0 ≤ b ∧ b < 256
theorem Byt.nil : Byt [] := fun b h => by cases h
theorem Byt.cons {a : Int} {b : List Int} (h : 0 ≤ a ∧ a < 256) (k : Byt b) : Byt (a :: b) := fun x hx => (List.mem_cons.1 hx).elim (fun e => e ▸ h) (k x)
theorem Byt.left {a b : List Int} (h : Byt (a ++ b)) : Byt a := fun x hx => h x (List.mem_append_left _ hx)
theorem Byt.right {a b : List Int} (h : Byt (a ++ b)) : Byt b := fun x hx => h x (List.mem_append_right _ hx)
theorem strN_size' (ns : List Int) : (strN ns).size = ns.length := by
  have := congrArg List.length (strN_data ns)
  simpa using this
/-! ### Regions whose order is open: shorter words -/
theorem A_tk {lo : List Oper} {S : World → Prop} {fuel : Nat} {ls : Array Bool} {Q : Exit → Act → World → Prop} (i : Nat) {dd : Nat} {op : Op} {v : Value} (hi : lo[i]? = some ⟨some dd, op, ty, pos, af, none⟩)
    (hc : (Region.noSelect lo.toArray && Region.free .any lo.toArray ls i && (Region.ready .any lo.toArray ls).contains i) = true)
    (hy : ∀ w, S w → (execOp (ev n e) ⟨some dd, op, ty, pos, af, none⟩).run P w = .ok (.value v) w) (hS : S w) (h : wpAnyH P .any lo.toArray Q S fuel (ls.setIfInBounds i true) (mkA n (upd e dd v) ds) w)
    (hQ : ∀ c a w, Q (.panic c) (a.put (some dd) v) w → Q (.panic c) a w := by exact fun _ _ _ h => h) :
    wpAnyH P .any lo.toArray Q S (fuel + 1) ls (mkA n e ds) w := by
  simp only [Bool.and_eq_true] at hc
  exact A_take i hi hc.1.1 hc.1.2 hc.2 rfl hQ hy hS h
theorem A_tkY {lo : List Oper} {S : World → Prop} {fuel : Nat} {ls : Array Bool} {Q : Exit → Act → World → Prop} (i : Nat) {dd j dj : Nat} {b : Bool} {op : Op} {v : Value} (hi : lo[i]? = some ⟨some dd, op, ty, pos, af, some (j, b)⟩)
    (hc : (Region.noSelect lo.toArray && Region.free .any lo.toArray ls i && (Region.ready .any lo.toArray ls).contains i) = true) (hj : (lo[j]?).bind (·.dst) = some dj) (hn : Nat.blt dj n = true) (hb : e dj = .bool b)
    (hy : ∀ w, S w → (execOp (ev n e) ⟨some dd, op, ty, pos, af, some (j, b)⟩).run P w = .ok (.value v) w) (hS : S w) (h : wpAnyH P .any lo.toArray Q S fuel (ls.setIfInBounds i true) (mkA n (upd e dd v) ds) w)
    (hQ : ∀ c a w, Q (.panic c) (a.put (some dd) v) w → Q (.panic c) a w := by exact fun _ _ _ h => h) :
    wpAnyH P .any lo.toArray Q S (fuel + 1) ls (mkA n e ds) w := by
  simp only [Bool.and_eq_true] at hc
  exact A_takeYes i hi hc.1.1 hc.1.2 hc.2 rfl hQ hj hn hb hy hS h
theorem A_tkN {lo : List Oper} {S : World → Prop} {fuel : Nat} {ls : Array Bool} {Q : Exit → Act → World → Prop} (i : Nat) {dd j dj : Nat} {b c : Bool} {op : Op} (hi : lo[i]? = some ⟨some dd, op, ty, pos, af, some (j, c)⟩)
    (hc : (Region.noSelect lo.toArray && Region.free .any lo.toArray ls i && (Region.ready .any lo.toArray ls).contains i) = true) (hj : (lo[j]?).bind (·.dst) = some dj) (hn : Nat.blt dj n = true) (hb : e dj = .bool b) (hbc : b ≠ c) (hS : S w)
    (h : wpAnyH P .any lo.toArray Q S fuel (ls.setIfInBounds i true) (mkA n (upd e dd undef) ds) w)
    (hQ : ∀ c a w, Q (.panic c) (a.put (some dd) undef) w → Q (.panic c) a w := by exact fun _ _ _ h => h) :
    wpAnyH P .any lo.toArray Q S (fuel + 1) ls (mkA n e ds) w := by
  simp only [Bool.and_eq_true] at hc
  exact A_takeNo i hi hc.1.1 hc.1.2 hc.2 rfl hQ hj hn hb hbc hS h
/-! ### Deferred calls of functions that do nothing -/
end
end Go.Proofs.YtlnihndjepjagaaGreat.Gw
set_option linter.unusedVariables false
namespace Go.Proofs.YtlnihndjepjagaaGreat
open Go Gw
theorem foll : Tryz.prog.follows .mixedOrders = true := by kernel_rfl
theorem z0 : tin Tryz.prog 0 = some (1, 0, some (Value.tuple #[])) := by kernel_rfl
theorem z1 : tin Tryz.prog 1 = some (1, 8, some (Value.nilFunc)) := by kernel_rfl
theorem z2 : tin Tryz.prog 2 = some (1, 8, some (Value.int .i64 0)) := by kernel_rfl
theorem z3 : tin Tryz.prog 3 = some (1, 8, some (Value.int .i64 0)) := by kernel_rfl
theorem z4 : tin Tryz.prog 4 = some (1, 1, some (Value.bool false)) := by kernel_rfl
theorem z5 : tin Tryz.prog 5 = some (1, 1, some (Value.int .u8 0)) := by kernel_rfl
theorem z26 : tin Tryz.prog 26 = some (5, 56, some (Value.agg #[(Value.int .i64 0), (Value.string ByteArray.empty), (Value.string ByteArray.empty), (Value.bool false), (Value.int .i64 0)])) := by kernel_rfl
theorem z42 : tin Tryz.prog 42 = some (4, 64, some (Value.agg #[(Value.bool false), (Value.int .i64 0), (Value.slice none 0 0), (Value.slice none 0 0)])) := by kernel_rfl
theorem z52 : tin Tryz.prog 52 = some (6, 64, some (Value.agg #[(Value.string ByteArray.empty), (Value.string ByteArray.empty), (Value.int .i64 0), (Value.int .i64 0), (Value.int .i64 0), (Value.int .i64 0)])) := by kernel_rfl
theorem z54 : tin Tryz.prog 54 = some (7, 72, some (Value.agg #[(Value.bool false), (Value.string ByteArray.empty), (Value.string ByteArray.empty), (Value.int .i64 0), (Value.int .i64 0), (Value.int .i64 0), (Value.int .i64 0)])) := by kernel_rfl
theorem z68 : tin Tryz.prog 68 = some (2, 16, some (Value.agg #[(Value.int .i64 0), (Value.int .i64 0)])) := by kernel_rfl
theorem z70 : tin Tryz.prog 70 = some (9, 88, some (Value.agg #[(Value.int .i64 0), (Value.int .i64 0), (Value.bool false), (Value.string ByteArray.empty), (Value.string ByteArray.empty), (Value.int .i64 0), (Value.int .i64 0), (Value.int .i64 0), (Value.int .i64 0)])) := by kernel_rfl
theorem z78 : tin Tryz.prog 78 = some (1, 8, some (Value.pointer none)) := by kernel_rfl
theorem z91 : tin Tryz.prog 91 = some (1, 8, some (Value.map none)) := by kernel_rfl
theorem z93 : tin Tryz.prog 93 = some (3, 32, some (Value.agg #[(Value.map none), (Value.nilIface), (Value.map none)])) := by kernel_rfl
theorem z101 : tin Tryz.prog 101 = some (1, 24, some (Value.slice none 0 0)) := by kernel_rfl
theorem z121 : tin Tryz.prog 121 = some (2, 16, some (Value.agg #[(Value.int .i64 0), (Value.int .i64 0)])) := by kernel_rfl
theorem z123 : tin Tryz.prog 123 = some (3, 24, some (Value.agg #[(Value.int .i64 0), (Value.int .i64 0), (Value.bool false)])) := by kernel_rfl
theorem z129 : tin Tryz.prog 129 = some (4, 32, some (Value.agg #[(Value.int .i64 0), (Value.int .i64 0), (Value.bool false), (Value.pointer none)])) := by kernel_rfl
theorem z136 : tin Tryz.prog 136 = some (1, 8, some (Value.pointer none)) := by kernel_rfl
theorem z142 : tin Tryz.prog 142 = some (10, 112, some (Value.agg #[(Value.slice none 0 0), (Value.slice none 0 0), (Value.bool false), (Value.bool false), (Value.bool false), (Value.int .i64 0), (Value.int .i64 0), (Value.int .i64 0), (Value.slice none 0 0), (Value.chan none)])) := by kernel_rfl
theorem z173 : tin Tryz.prog 173 = some (1, 8, some (Value.pointer none)) := by kernel_rfl
theorem z175 : tin Tryz.prog 175 = some (1, 16, some (Value.nilIface)) := by kernel_rfl
theorem z177 : tin Tryz.prog 177 = some (2, 32, some (Value.agg #[(Value.nilIface), (Value.nilIface)])) := by kernel_rfl
theorem z180 : tin Tryz.prog 180 = some (1, 8, some (Value.int .i64 0)) := by kernel_rfl
theorem z182 : tin Tryz.prog 182 = some (8, 96, some (Value.agg #[(Value.nilIface), (Value.nilIface), (Value.nilIface), (Value.nilIface), (Value.pointer none), (Value.pointer none), (Value.pointer none), (Value.int .i64 0)])) := by kernel_rfl
theorem z190 : tin Tryz.prog 190 = some (0, 0, some (Value.agg #[])) := by kernel_rfl
theorem z259 : tin Tryz.prog 259 = some (4, 48, some (Value.agg #[(Value.int .i64 0), (Value.bool false), (Value.int .i64 0), (Value.slice none 0 0)])) := by kernel_rfl
theorem cb6 : callable Tryz.prog 6 = true := by kernel_rfl
theorem cb14 : callable Tryz.prog 14 = true := by kernel_rfl
theorem cb15 : callable Tryz.prog 15 = true := by kernel_rfl
theorem cb16 : callable Tryz.prog 16 = true := by kernel_rfl
theorem cb17 : callable Tryz.prog 17 = true := by kernel_rfl
theorem cb18 : callable Tryz.prog 18 = true := by kernel_rfl
theorem cb19 : callable Tryz.prog 19 = true := by kernel_rfl
theorem cb20 : callable Tryz.prog 20 = true := by kernel_rfl
theorem cb21 : callable Tryz.prog 21 = true := by kernel_rfl
theorem cb24 : callable Tryz.prog 24 = true := by kernel_rfl
theorem cb25 : callable Tryz.prog 25 = true := by kernel_rfl
theorem cb28 : callable Tryz.prog 28 = true := by kernel_rfl
theorem cb29 : callable Tryz.prog 29 = true := by kernel_rfl
theorem cb30 : callable Tryz.prog 30 = true := by kernel_rfl
theorem cb31 : callable Tryz.prog 31 = true := by kernel_rfl
theorem cb32 : callable Tryz.prog 32 = true := by kernel_rfl
theorem cb33 : callable Tryz.prog 33 = true := by kernel_rfl
theorem cb38 : callable Tryz.prog 38 = true := by kernel_rfl
theorem cb39 : callable Tryz.prog 39 = true := by kernel_rfl
theorem cb40 : callable Tryz.prog 40 = true := by kernel_rfl
theorem cb41 : callable Tryz.prog 41 = true := by kernel_rfl
theorem cb42 : callable Tryz.prog 42 = true := by kernel_rfl
theorem cb43 : callable Tryz.prog 43 = true := by kernel_rfl
theorem cb56 : callable Tryz.prog 56 = true := by kernel_rfl
theorem cb57 : callable Tryz.prog 57 = true := by kernel_rfl
theorem cb58 : callable Tryz.prog 58 = true := by kernel_rfl
theorem cb59 : callable Tryz.prog 59 = true := by kernel_rfl
theorem cb60 : callable Tryz.prog 60 = true := by kernel_rfl
theorem cb61 : callable Tryz.prog 61 = true := by kernel_rfl
theorem cb62 : callable Tryz.prog 62 = true := by kernel_rfl
theorem cb63 : callable Tryz.prog 63 = true := by kernel_rfl
theorem cb64 : callable Tryz.prog 64 = true := by kernel_rfl
theorem cb65 : callable Tryz.prog 65 = true := by kernel_rfl
theorem cb67 : callable Tryz.prog 67 = true := by kernel_rfl
theorem cb74 : callable Tryz.prog 74 = true := by kernel_rfl
theorem cb75 : callable Tryz.prog 75 = true := by kernel_rfl
theorem cb76 : callable Tryz.prog 76 = true := by kernel_rfl
theorem cb77 : callable Tryz.prog 77 = true := by kernel_rfl
theorem cb78 : callable Tryz.prog 78 = true := by kernel_rfl
theorem cb79 : callable Tryz.prog 79 = true := by kernel_rfl
theorem cb80 : callable Tryz.prog 80 = true := by kernel_rfl
theorem cb81 : callable Tryz.prog 81 = true := by kernel_rfl
theorem cb82 : callable Tryz.prog 82 = true := by kernel_rfl
theorem cb83 : callable Tryz.prog 83 = true := by kernel_rfl
theorem cb86 : callable Tryz.prog 86 = true := by kernel_rfl
theorem cb109 : callable Tryz.prog 109 = true := by kernel_rfl
theorem cb110 : callable Tryz.prog 110 = true := by kernel_rfl
theorem cb121 : callable Tryz.prog 121 = true := by kernel_rfl
theorem cb140 : callable Tryz.prog 140 = true := by kernel_rfl
theorem cb141 : callable Tryz.prog 141 = true := by kernel_rfl
theorem cb142 : callable Tryz.prog 142 = true := by kernel_rfl
theorem cb143 : callable Tryz.prog 143 = true := by kernel_rfl
theorem cb144 : callable Tryz.prog 144 = true := by kernel_rfl
theorem cb145 : callable Tryz.prog 145 = true := by kernel_rfl
theorem cb146 : callable Tryz.prog 146 = true := by kernel_rfl
theorem cb147 : callable Tryz.prog 147 = true := by kernel_rfl
theorem cb152 : callable Tryz.prog 152 = true := by kernel_rfl
theorem cb155 : callable Tryz.prog 155 = true := by kernel_rfl
theorem cb157 : callable Tryz.prog 157 = true := by kernel_rfl
theorem cb158 : callable Tryz.prog 158 = true := by kernel_rfl
theorem cb164 : callable Tryz.prog 164 = true := by kernel_rfl
theorem cb166 : callable Tryz.prog 166 = true := by kernel_rfl
theorem cb168 : callable Tryz.prog 168 = true := by kernel_rfl
theorem cb169 : callable Tryz.prog 169 = true := by kernel_rfl
theorem cb170 : callable Tryz.prog 170 = true := by kernel_rfl
theorem cb175 : callable Tryz.prog 175 = true := by kernel_rfl
theorem cb176 : callable Tryz.prog 176 = true := by kernel_rfl
theorem cb177 : callable Tryz.prog 177 = true := by kernel_rfl
theorem cb179 : callable Tryz.prog 179 = true := by kernel_rfl
end Go.Proofs.YtlnihndjepjagaaGreat
set_option linter.unusedVariables false
set_option linter.unusedSimpArgs false
set_option linter.unusedSectionVars false
namespace Go.Proofs.YtlnihndjepjagaaGreat.Gw
open Go Go.RowKit
section
variable {P : Program} {n : Nat} {e : Env} {w : World}
end
end Go.Proofs.YtlnihndjepjagaaGreat.Gw
set_option linter.unusedVariables false
set_option linter.unusedSimpArgs false
set_option linter.unusedSectionVars false
namespace Go.Proofs.YtlnihndjepjagaaGreat.Gw
open Go Go.RowKit
section
variable {P : Program} {n : Nat} {e : Env} {w : World} {K : Value → World → Prop} {Q : Exit → Act → World → Prop} {d : Option Nat} {ty : TypeId} {pos : String} {af : Array Edge} {g : Option (Nat × Bool)} {l : List SP} {ds : List Deferred}
def clf (b : Nat) (T : TypeId) (cs : List Value) : SP := fun h => h b = some (.cells cs.toArray T (0, 0))
end
end Go.Proofs.YtlnihndjepjagaaGreat.Gw
set_option linter.unusedVariables false
set_option linter.unusedSimpArgs false
set_option linter.unusedSectionVars false
namespace Go.Proofs.YtlnihndjepjagaaGreat.Gw
open Go Go.RowKit
section
variable {P : Program} {n : Nat} {e : Env} {w : World} {K : Value → World → Prop} {Q : Exit → Act → World → Prop} {d : Option Nat} {ty : TypeId} {pos : String} {af : Array Edge} {g : Option (Nat × Bool)} {l : List SP} {ds : List Deferred}
def TriG (P : Program) (f : FuncId) (args : Array Value) (R : HP) (pre : List SP) (Q : HP → Value → List SP → Prop) : Prop :=
  ∀ (w : World) (F : List SP), Holds w (ro R :: (pre ++ F)) →
    Calls P f args w fun e w' => ∃ R' v post, e = .returned v ∧ Sub R R' ∧ Q R' v post ∧ Same w w' ∧ Holds w' (ro R' :: (post ++ F))
theorem TriG.into {f : FuncId} {fn : Func} {c : Code} {args : Array Value} {al : List Value} {R : HP} {pre : List SP} {Qc : HP → Value → List SP → Prop} (hf : P.funcs[f]? = some fn) (hb : fn.body = some c) (hn : fn.ntmps = n)
    (ha : args = al.toArray) (hl : Nat.ble al.length n = true)
    (h : ∀ w F, Holds w (ro R :: (pre ++ F)) → c.wp P (bodyPost P fn fun r w' => ∃ R' v post, r = .returned v ∧ Sub R R' ∧ Qc R' v post ∧ Same w w' ∧ Holds w' (ro R' :: (post ++ F))) (mkA n (fun t => al.getD t undef) []) w) :
    TriG P f args R pre Qc := fun w F hh => Calls.into hf hb hn ha hl (h w F hh)
theorem T_callG {f : FuncId} {x : Operand} {lo : List Operand} {cl al : List Value} {at_ : Array TypeId} {R : HP} {pre F : List SP} {Qc : HP → Value → List SP → Prop}
    (hx : ev n e x = .func (.func f) #[] cl.toArray) (ha : lo.map (ev n e) ++ cl = al) (hc : callable P f = true) (ht : TriG P f al.toArray R pre Qc) (h : Holds w (ro R :: (pre ++ F)))
    (k : ∀ R' v post w', Sub R R' → Qc R' v post → Same w w' → Holds w' (ro R' :: (post ++ F)) → K v w') : Stp P n e ⟨d, .call { callee := .value x, args := lo.toArray, argTypes := at_ }, ty, pos, af, g⟩ w K :=
  T_callW hx ha hc ((ht w F h).mono fun r w' ⟨R', v, post, er, hs, q, s, hh⟩ => ⟨v, er, k R' v post w' hs q s hh⟩)
theorem T_invokeG {f : FuncId} {x : Operand} {lo : List Operand} {t : TypeId} {v recv : Value} {nm : String} {al : List Value} {at_ : Array TypeId} {R : HP} {pre F : List SP} {Qc : HP → Value → List SP → Prop} (hx : ev n e x = .iface t v)
    (hm : ∀ w, (method (P.types.size + Made.depth) t v nm).run P w = .ok (f, recv) w) (ha : recv :: lo.map (ev n e) = al) (hc : callable P f = true)
    (ht : TriG P f al.toArray R pre Qc) (h : Holds w (ro R :: (pre ++ F)))
    (k : ∀ R' v post w', Sub R R' → Qc R' v post → Same w w' → Holds w' (ro R' :: (post ++ F)) → K v w') : Stp P n e ⟨d, .call { callee := .invoke x nm, args := lo.toArray, argTypes := at_ }, ty, pos, af, g⟩ w K :=
  T_invokeW hx hm ha hc ((ht w F h).mono fun r w' ⟨R', v, post, er, hs, q, s, hh⟩ => ⟨v, er, k R' v post w' hs q s hh⟩)
end
end Go.Proofs.YtlnihndjepjagaaGreat.Gw
set_option linter.unusedVariables false
set_option linter.unusedSimpArgs false
set_option linter.unusedSectionVars false
namespace Go.Proofs.YtlnihndjepjagaaGreat.Gw
open Go Go.RowKit
section
variable {P : Program} {n : Nat} {e : Env} {w : World}
end
end Go.Proofs.YtlnihndjepjagaaGreat.Gw
set_option linter.unusedVariables false
set_option linter.unusedSimpArgs false
set_option linter.unusedSectionVars false
namespace Go.Proofs.YtlnihndjepjagaaGreat.Gw
open Go Go.RowKit
section
variable {α : Type} [DecidableEq α] {m : List (α × Value)}
end
section
variable {P : Program} {n : Nat} {e : Env} {w : World} {K : Value → World → Prop} {d : Option Nat} {ty : TypeId} {pos : String} {af : Array Edge} {g : Option (Nat × Bool)} {l : List SP}
end
end Go.Proofs.YtlnihndjepjagaaGreat.Gw
set_option linter.unusedVariables false
set_option linter.unusedSimpArgs false
namespace Go.Proofs.YtlnihndjepjagaaGreat.Gw
open Go Go.RowKit
section
variable {P : Program} {n : Nat} {e : Env} {w : World} {l : List SP} {K : Value → World → Prop} {d : Option Nat} {ty : TypeId} {pos : String} {af : Array Edge} {g : Option (Nat × Bool)}
theorem Holds.mark {w : World} {l : List SP} (h : Holds w l) (i : Nat) {b T : Nat} {cs : List Value} (hi : l[i]? = some (clf b T cs)) :
    w.shape? b = some (T, cs.length) ∧ Holds (w.freeze ⟨b, cs.length, none⟩ 1) (l.set i (cl b T cs)) := by
  have he : w.heap[b]? = some (.cells cs.toArray T (0, 0)) := by
    obtain ⟨h1, k, s, t, d, e, r⟩ := Sat.bring i hi h
    exact s _ _ e
  refine ⟨by simp [World.shape?, he], ?_⟩
  have hw : hp (w.freeze ⟨b, cs.length, none⟩ 1) = upb (hp w) b (.cells cs.toArray T (cs.length, cs.length + 1)) := by
    refine hp_setBlock _ _ _ _ ?_ (fun c hc => ?_)
    · unfold World.freeze
      rw [if_neg (by decide)]
      simp only [Array.getElem?_modify, if_true, he, Option.map_some]
      rfl
    · unfold World.freeze
      rw [if_neg (by decide)]
      simp only [Array.getElem?_modify, if_neg (Ne.symm hc)]
  unfold Holds
  rw [hw]
  refine Sat.upb_at i hi h (fun h e' => ⟨_, e'⟩) fun h _ => ⟨(cs.length, cs.length + 1), by simp [upb], ?_⟩
  intro j hj ⟨h1, _⟩
  exact absurd h1 (Nat.not_le.2 hj)
theorem Holds.resl (h : Holds w l) (i : Nat) {T sz m m' : Nat} {v : Value} {xs xs' : List Value} (hi : l[i]? = some (sl T sz v m xs)) (hx : xs = xs') (hm : m = m') : Holds w (l.set i (sl T sz v m' xs')) := by
  subst hx; subst hm
  exact h.map_at i hi fun _ a => a
theorem Holds.recl (h : Holds w l) (i : Nat) {b T : Nat} {cs cs' : List Value} (hi : l[i]? = some (cl b T cs)) (hc : cs = cs') : Holds w (l.set i (cl b T cs')) := by
  subst hc
  exact h.map_at i hi fun _ a => a
def pk (n : Nat) : List SP → List Nat → List SP
  | l, [] => l.drop n
  | l, i :: r => match l[i]? with
    | some A => A :: pk n (l.eraseIdx i) r
    | none => []
theorem Sat.drop_ : ∀ (n : Nat) {l : List SP} {g : HP}, Sat l g → Sat (l.drop n) g
  | 0, _, _, h => h
  | _ + 1, [], _, h => h
  | n + 1, _ :: _, _, h => Sat.drop_ n (Sat.tail h)
theorem Sat.pk_ (n : Nat) : ∀ (idx : List Nat) {l : List SP} {g : HP}, Sat l g → Sat (pk n l idx) g
  | [], _, _, h => Sat.drop_ n h
  | i :: r, l, g, h => by
    unfold pk
    split
    · rename_i A e
      exact Sat.cons_map (fun g h => Sat.pk_ n r h) (Sat.bring i e h)
    · trivial
theorem Holds.pkF (h : Holds w l) (idx : List Nat) (n : Nat) : Holds w (pk n l idx) := Sat.pk_ n idx h
theorem Holds.drew_ (h : Holds w l) : Holds w.drew l := h
theorem A_cut {P : Program} {ops : Array Oper} {Q : Exit → Act → World → Prop} {S : World → Prop} {fuel : Nat} {ls : Array Bool} {a0 : Act} {w0 : World} (ls' : Array Bool) (fuel' : Nat) (J : Act → World → Prop) (h1 : ∀ a w, J a w → wpAnyH P .any ops Q S fuel' ls' a w)
    (h2 : (∀ a w, J a w → wpAnyH P .any ops Q S fuel' ls' a w) → wpAnyH P .any ops Q S fuel ls a0 w0) : wpAnyH P .any ops Q S fuel ls a0 w0 := h2 h1
end
end Go.Proofs.YtlnihndjepjagaaGreat.Gw
set_option linter.unusedVariables false
set_option linter.unusedSimpArgs false
set_option linter.unusedSectionVars false
namespace Go.Proofs.YtlnihndjepjagaaGreat.Gw
open Go Go.RowKit
section
variable {α : Type} [DecidableEq α]
variable {P : Program} {w : World} {l : List SP} {n : Nat} {e : Env} {K' : Value → World → Prop} {d : Option Nat} {ty : TypeId} {pos : String} {af : Array Edge} {g : Option (Nat × Bool)}
/-! ### The end of a slice -/
theorem fm_dropk {β : Type} {F : β → List Value} {n : Nat} (hn : ∀ x, (F x).length = n) : ∀ (L : List β) (k : Nat), (L.flatMap F).drop (k * n) = (L.drop k).flatMap F
  | [], k => by simp
  | x :: L, 0 => by simp
  | x :: L, k + 1 => by
    rw [List.flatMap_cons, Nat.succ_mul, List.drop_append, List.drop_eq_nil_of_le (by rw [hn]; omega), List.nil_append, hn, Nat.add_sub_cancel, fm_dropk hn L k, List.drop_succ_cons]
theorem fm_takek {β : Type} {F : β → List Value} {n : Nat} (hn : ∀ x, (F x).length = n) : ∀ (L : List β) (k : Nat), (L.flatMap F).take (k * n) = (L.take k).flatMap F
  | [], k => by simp
  | x :: L, 0 => by simp
  | x :: L, k + 1 => by
    rw [List.flatMap_cons, Nat.succ_mul, List.take_append, List.take_of_length_le (by rw [hn]; omega), hn, Nat.add_sub_cancel, fm_takek hn L k, List.take_succ_cons, List.flatMap_cons]
theorem RS.slcF {β : Type} {F : β → List Value} {n a b : Nat} (hn : ∀ x, (F x).length = n) {R : HP} {v : Value} {L : List β} (h : RS R n v L.length (L.flatMap F)) (h1 : a ≤ b) (h2 : b ≤ L.length) : RS R n (Gw.slc v a b n) ((L.drop a).take (b - a)).length (((L.drop a).take (b - a)).flatMap F) := by
  have := h.slc h1 h2
  rw [fm_dropk hn, fm_takek hn] at this
  rwa [List.length_take, List.length_drop, Nat.min_eq_left (by omega)]
end
end Go.Proofs.YtlnihndjepjagaaGreat.Gw
set_option linter.unusedVariables false
set_option linter.unusedSimpArgs false
namespace Go.Proofs.YtlnihndjepjagaaGreat.Gw
open Go Go.RowKit Go.ChangeShapes Go.WideShapes Go.ChangeAt
section
variable {H : Type} {enc : TypeId × Value → H} {P : Program} {w : World} {base : Nat} {spare : Nat → Bool} {held : Bool} {t : TypeId} {fuel n : Nat} {cs : List Value} {c : Value}
def ReadsB (enc : TypeId × Value → H) (P : Program) (w : World) (base : Nat) (spare : Nat → Bool) (held : Bool) (fuel : Nat) (t : TypeId) (cs : List Value) : Prop := ∃ y, DataW.trod enc P w base spare held fuel t cs = some y ∧ ∀ m ∈ y.1.weights P t, m ≤ reachBytes
theorem ReadsB.F (h : ReadsB enc P w base spare held fuel t cs) : ReadsF enc P w base spare held fuel t cs := by obtain ⟨y, h, _⟩ := h; exact ⟨y, h⟩
theorem ReadsB.reads (h : ReadsB enc P w base spare held fuel t cs) : Reads enc P w base spare held t cs := h.F.reads
theorem ReadsB.zero (h : ReadsB enc P w base spare held 0 t cs) : False := h.F.zero
end
end Go.Proofs.YtlnihndjepjagaaGreat.Gw
set_option linter.unusedVariables false
set_option linter.unusedSimpArgs false
namespace Go.Proofs.YtlnihndjepjagaaGreat
open Go Go.RowKit Gw
open Go.Value renaming int → vI, bool → vB, slice → vS, pointer → vP, agg → vA, tuple → vT

/-! ### Blocks whose cells no text shares -/
section
variable {P : Program} {n : Nat} {e : Env} {w : World} {K : Value → World → Prop} {d : Option Nat} {ty : TypeId} {pos : String} {af : Array Edge} {g : Option (Nat × Bool)} {l : List SP}
theorem Holds.clf_block (h : Holds w l) (i : Nat) {b : Nat} {T : TypeId} {cs : List Value} (hi : l[i]? = some (clf b T cs)) : w.heap[b]? = some (.cells cs.toArray T (0, 0)) := by
  obtain ⟨h', s, e⟩ := Sat.at i hi h
  exact s _ _ e
theorem Holds.clf_cell (h : Holds w l) (i : Nat) {b : Nat} {T : TypeId} {cs : List Value} (hi : l[i]? = some (clf b T cs)) {k : Nat} {v : Value} (hk : cs[k]? = some v) : w.cell? ⟨b, k, none⟩ = some v := by
  rw [cell_of_row w b k _ T (0, 0) (Holds.clf_block h i hi)]
  simpa using hk
theorem Holds.rdf (h : Holds w l) (i : Nat) {b : Nat} {T : TypeId} {cs : List Value} (hi : l[i]? = some (clf b T cs)) : Rd b cs w := fun _ _ hk => Holds.clf_cell h i hi hk
theorem Holds.setCellf (h : Holds w l) (i : Nat) {b : Nat} {T : TypeId} {cs : List Value} (hi : l[i]? = some (clf b T cs)) (k : Nat) (v : Value) : Holds (w.setCell ⟨b, k, none⟩ v) (l.set i (clf b T (cs.set k v))) := by
  have e := Holds.clf_block h i hi
  have hw : hp (w.setCell ⟨b, k, none⟩ v) = upb (hp w) b (.cells (cs.set k v).toArray T (0, 0)) := by
    refine hp_setBlock _ _ _ _ ?_ (fun c hc => heap_setCell_other _ _ _ _ hc)
    simp only [World.setCell, Array.getElem?_modify, if_true, e, Option.map_some]
    simp
  unfold Holds
  rw [hw]
  exact Sat.upb_at i hi h (fun h e' => ⟨_, e'⟩) fun h e' => by unfold clf; simp [upb]
theorem T_store1f {t b bb T : Nat} {z : Option Value} {x y : Operand} {off : Nat} {v : Value} {cs : List Value} (hx : ev n e x = .pointer (some ⟨b, off, none⟩)) (hy : ev n e y = v) (hz : tin P t = some (1, bb, z))
    (hv : v.oneCell' = true) (h : Holds w l) (i : Nat) (hi : l[i]? = some (clf b T cs)) (hk : off < cs.length) (k : ∀ w', Same w w' → Holds w' (l.set i (clf b T (cs.set off v))) → K undef w') :
    Stp P n e ⟨d, .store t x y, ty, pos, af, g⟩ w K := by
  refine .inr (.inl ⟨w.setCell ⟨b, off, none⟩ v, ?_, k _ (Same.setCell w _ v) (Holds.setCellf h i hi off v)⟩)
  simp only [execOp]
  rw [hx, hy]
  have hf : w.frozen? ⟨b, off, none⟩ = false := by simp [World.frozen?, Holds.clf_block h i hi]
  simp only [Sem.run_bind, run_storeAt1 (s := 1) hz hv (Holds.clf_cell h i hi (List.getElem?_eq_getElem hk)) hf, Result.andThen_ok, Sem.run_pure]
theorem Holds.allocf (h : Holds w l) (cs : Array Value) (T : TypeId) : Holds (w.alloc (.cells cs T)) (clf w.heap.size T cs.toList :: l) := by
  have hw : hp (w.alloc (.cells cs T)) = upb (hp w) w.heap.size (.cells cs T) :=
    hp_setBlock _ _ _ _ (heap_alloc_new w _) (fun c hc => by
      rcases Nat.lt_or_ge c w.heap.size with x | x
      · exact heap_alloc_old w _ x
      · have h1 : (w.alloc (.cells cs T)).heap.size ≤ c := by simp; omega
        rw [Array.getElem?_eq_none h1, Array.getElem?_eq_none x])
  unfold Holds
  rw [hw]
  exact Sat.upb_new h (by simp [hp]) (by simp [clf])
theorem T_boxf {t : Nat} {x : Operand} {v : Value} (hx : ev n e x = v) (h : Holds w l) (k : ∀ b w', Same w w' → Holds w' (clf b t v.cells.toList :: l) → K (.pointer (some ⟨b, 0, none⟩)) w') :
    Stp P n e ⟨d, .box t x, ty, pos, af, g⟩ w K := by
  refine T_new (obj := .cells v.cells t) (f := fun b => .pointer (some ⟨b, 0, none⟩)) ?_ (fun l h => Holds.allocf h _ _) h k
  simp only [execOp]; rw [hx]; rfl
def Blk (w : World) (b : Nat) : Prop := ∃ cs T, w.heap[b]? = some (.cells cs T (0, 0))
theorem Holds.blk (h : Holds w l) (i : Nat) {b : Nat} {T : TypeId} {cs : List Value} (hi : l[i]? = some (clf b T cs)) : Blk w b := ⟨_, _, Holds.clf_block h i hi⟩
theorem run_eqPN {t te : TypeId} {a b : Nat} {s bb : Nat} {z : Option Value} (hu : P.underlying t = some (.pointer te)) (hz : tin P te = some (s, bb, z)) (hs : s ≠ 0) (ha : Blk w a) (hb : Blk w b) :
    (Op.equal t (.pointer (some ⟨a, 0, none⟩)) (.pointer (some ⟨b, 0, none⟩))).run P w = .ok (decide (a = b)) w := by
  unfold tin at hz
  cases hi : P.info? te with
  | none => rw [hi] at hz; cases hz
  | some j =>
    rw [hi] at hz
    simp only [Option.map_some, Option.some.injEq, Prod.mk.injEq] at hz
    obtain ⟨ca, ta, ea⟩ := ha
    obtain ⟨cb, tb, eb⟩ := hb
    have key : ∀ dd : Nat, (Op.equalIn (dd + 1) t (.pointer (some ⟨a, 0, none⟩)) (.pointer (some ⟨b, 0, none⟩))).run P w = .ok (decide (a = b)) w := by
     intro dd
     by_cases hab : a = b
     · subst hab
       simp [Op.equalIn, run_underlying hu, sizeOf, typeInfo, hi, run_sameAddr_same]
     · have hne : (⟨a, 0, none⟩ : Addr) ≠ ⟨b, 0, none⟩ := by intro h; injection h with h; exact hab h
       have hj : j.size ≠ 0 := by omega
       simp [Op.equalIn, run_underlying hu, sizeOf, typeInfo, hi, hj, run_sameAddr_other w hne ea eb, hab]
    exact key 9999
theorem x_eqPN {t u te : TypeId} {x y : Operand} {a b s bb : Nat} {z : Option Value} (hx : ev n e x = .pointer (some ⟨a, 0, none⟩)) (hy : ev n e y = .pointer (some ⟨b, 0, none⟩)) (hu : P.underlying t = some (.pointer te)) (hz : tin P te = some (s, bb, z)) (hs : s ≠ 0) (ha : Blk w a) (hb : Blk w b) :
    (execOp (ev n e) ⟨d, .binOp .eql t x y u, ty, pos, af, g⟩).run P w = .ok (.value (.bool (decide (a = b)))) w := by
  simp only [execOp]
  rw [hx, hy]
  refine run_v _ ?_
  have h1 : (eqGuard .eql t x y (.pointer (some ⟨a, 0, none⟩)) (.pointer (some ⟨b, 0, none⟩))).run P w = .ok () w := by simp [eqGuard]
  simp only [Sem.run_bind, h1, Result.andThen_ok, binOp]
  simp [run_eqPN hu hz hs ha hb]
theorem x_nePN {t u te : TypeId} {x y : Operand} {a b s bb : Nat} {z : Option Value} (hx : ev n e x = .pointer (some ⟨a, 0, none⟩)) (hy : ev n e y = .pointer (some ⟨b, 0, none⟩)) (hu : P.underlying t = some (.pointer te)) (hz : tin P te = some (s, bb, z)) (hs : s ≠ 0) (ha : Blk w a) (hb : Blk w b) :
    (execOp (ev n e) ⟨d, .binOp .neq t x y u, ty, pos, af, g⟩).run P w = .ok (.value (.bool (decide (a ≠ b)))) w := by
  simp only [execOp]
  rw [hx, hy]
  refine run_v _ ?_
  have h1 : (eqGuard .neq t x y (.pointer (some ⟨a, 0, none⟩)) (.pointer (some ⟨b, 0, none⟩))).run P w = .ok () w := by simp [eqGuard]
  simp only [Sem.run_bind, h1, Result.andThen_ok, binOp]
  simp [run_eqPN hu hz hs ha hb]
end

end Go.Proofs.YtlnihndjepjagaaGreat
set_option linter.unusedVariables false
set_option linter.unusedSimpArgs false
namespace Go.Proofs.YtlnihndjepjagaaGreat
open Go Go.RowKit Gw
open Go.Value renaming int → vI, bool → vB, slice → vS, pointer → vP, agg → vA, tuple → vT

/-! ### Things that are compared -/
def Cmps (R : HP) (v w : Value) (c : Int) : Prop := ∃ (t : TypeId) (x : Value) (f : FuncId), v = .iface t x ∧ (∀ W, (method (Tryz.prog.types.size + Made.depth) t x "Compare").run Tryz.prog W = .ok (f, x) W) ∧ callable Tryz.prog f = true ∧ (Tri Tryz.prog f #[x, w] R [] fun r post => r = .int .i64 c ∧ post = []) ∧ ∀ W, (nilAhead (Tryz.prog.types.size + Made.depth) t x "Compare").run Tryz.prog W = .ok (some false) W
structure KO (K : Type) where
  cm : K → K → Int
  Val : HP → Value → K → Prop
  mono : ∀ {R R' : HP} {v : Value} {k : K}, Sub R R' → Val R v k → Val R' v k
  one : ∀ {R : HP} {v : Value} {k : K}, Val R v k → v.oneCell' = true
  cmp : ∀ {R : HP} {v w : Value} {a b : K}, Val R v a → Val R w b → Cmps R v w (cm a b)
  refl : ∀ a, cm a a = 0
  anti : ∀ {a b}, cm a b = 0 → a = b
  flip : ∀ {a b}, cm a b < 0 ↔ 0 < cm b a
  trans : ∀ {a b c}, cm a b ≤ 0 → cm b c ≤ 0 → cm a c ≤ 0
section
variable {n : Nat} {e : Env} {w : World} {K : Value → World → Prop} {d : Option Nat} {ty : TypeId} {pos : String} {af : Array Edge} {g : Option (Nat × Bool)} {l : List SP}
theorem T_cmp {R : HP} {x y : Operand} {v u : Value} {c : Int} {at_ : Array TypeId} (hx : ev n e x = v) (hy : ev n e y = u) (hc : Cmps R v u c) (h : Holds w l) (i : Nat) (hi : l[i]? = some (ro R))
    (k : ∀ w', Same w w' → Holds w' l → K (.int .i64 c) w') : Stp Tryz.prog n e ⟨d, .call { callee := .invoke x "Compare", args := #[y], argTypes := at_ }, ty, pos, af, g⟩ w K := by
  obtain ⟨t, xv, f, rfl, hm, hcl, ht, -⟩ := hc
  refine T_invokeWw (lo := [y]) (al := [xv, u]) hx (hm w) (by simp [hy]) hcl ?_
  have h1 : Holds w (ro R :: ([] ++ l.eraseIdx i)) := h.bring i hi
  refine (ht w _ h1).mono fun r w' ⟨v', post, er, ⟨q1, q2⟩, s, hh⟩ => ⟨v', er, ?_⟩
  subst q1; subst q2
  exact k w' s (Sat.back i hi hh)
end
/-! ### Trees of nodes -/
def pn (b : Nat) : Value := .pointer (some ⟨b, 0, none⟩)
abbrev vQ (b : Nat) : Value := .pointer (some ⟨b, 0, none⟩)
section
variable {P : Program} {n : Nat} {e : Env} {ds : List Deferred} {w : World} {Q : Exit → Act → World → Prop} {ops : Array Oper} {rest : List Oper} {ty : TypeId} {pos : String} {af : Array Edge}
theorem sm {dd : Nat} {x : Operand} (v : Value) (k : wpList P ops Q rest (mkA n (upd e dd v) ds) w) (h : ev n e x = v := by exact rfl) : wpList P ops Q (⟨some dd, .move x, ty, pos, af, none⟩ :: rest) (mkA n e ds) w := sv (x_move h) k
theorem cR {id : Nat} {lo : List Oper} {y : Code} (h : ∀ K : Act → World → Prop, (∀ a w, y.wp P Q a w → K a w) → wpList P lo.toArray (Exit.then K Q) lo (mkA n e ds) w) : (Code.seq (.region id lo.toArray false) y).wp P Q (mkA n e ds) w := C_seq fun K hK => C_reg (h K hK)
theorem wn {J : Act → World → Prop} {a : Act} (h : J a w) : wpList P ops (Exit.then J Q) [] a w := wpList_nil (X_then h)
end
structure ND (K : Type) where
  a : Nat
  b : Value
  e : Value
  v : Value
  mx : Value
  c : Int
  kb : K
  ke : K
  km : K
def ND.cells {K : Type} (n : ND K) (l r p : Nat) : List Value := [n.b, n.e, n.v, n.mx, pn l, pn r, pn p, .int .i64 n.c]
inductive Tr (K : Type) where
  | lf
  | nd (n : ND K) (l r : Tr K)
structure Fr (K : Type) where
  d : Bool
  n : ND K
  o : Tr K
section
variable {K : Type} (sb : Nat)
def rt : Tr K → Nat | .lf => sb | .nd n _ _ => n.a
def tr : Nat → Tr K → SP
  | _, .lf => pu True
  | p, .nd n l r => grp [clf n.a 182 (n.cells (rt sb l) (rt sb r) p), tr n.a l, tr n.a r]
def pa : List (Fr K) → Nat | [] => sb | f :: _ => f.n.a
def Fr.cells (f : Fr K) (h q : Nat) : List Value := if f.d then f.n.cells h (rt sb f.o) q else f.n.cells (rt sb f.o) h q
def cx : Nat → List (Fr K) → SP
  | _, [] => pu True
  | h, f :: C => grp [clf f.n.a 182 (f.cells sb h (pa sb C)), tr sb f.n.a f.o, cx f.n.a C]
def top (h : Nat) : List (Fr K) → Nat | [] => h | f :: _ => f.n.a
def sg (h : Nat) : List (Fr K) → Nat → SP
  | [], _ => pu True
  | f :: S, q => grp [clf f.n.a 182 (f.cells sb (top h S) q), tr sb f.n.a f.o, sg h S f.n.a]
def Fr.fill (f : Fr K) (t : Tr K) : Tr K := if f.d then .nd f.n t f.o else .nd f.n f.o t
def plug : List (Fr K) → Tr K → Tr K | [], t => t | f :: C, t => plug C (f.fill t)
variable {sb}
variable {w : World} {l : List SP}
theorem Holds.tr_nd {p : Nat} {n : ND K} {a b : Tr K} (h : Holds w (tr sb p (.nd n a b) :: l)) : Holds w (clf n.a 182 (n.cells (rt sb a) (rt sb b) p) :: tr sb n.a a :: tr sb n.a b :: l) := Holds.ungrp h
theorem Holds.nd_tr {p : Nat} {n : ND K} {a b : Tr K} (h : Holds w (clf n.a 182 (n.cells (rt sb a) (rt sb b) p) :: tr sb n.a a :: tr sb n.a b :: l)) : Holds w (tr sb p (.nd n a b) :: l) := Holds.grp (l := [_, _, _]) h
theorem Holds.lf_tr {p : Nat} (h : Holds w l) : Holds w (tr sb p (.lf : Tr K) :: l) := Sat.add_free (fun _ => trivial) h
theorem Holds.cx_nil {x : Nat} (h : Holds w l) : Holds w (cx sb x ([] : List (Fr K)) :: l) := Sat.add_free (fun _ => trivial) h
theorem Holds.sg_nil {x q : Nat} (h : Holds w l) : Holds w (sg sb x ([] : List (Fr K)) q :: l) := Sat.add_free (fun _ => trivial) h
theorem Holds.cx_cons {x : Nat} {f : Fr K} {C : List (Fr K)} (h : Holds w (cx sb x (f :: C) :: l)) : Holds w (clf f.n.a 182 (f.cells sb x (pa sb C)) :: tr sb f.n.a f.o :: cx sb f.n.a C :: l) := Holds.ungrp h
theorem Holds.cons_cx {x : Nat} {f : Fr K} {C : List (Fr K)} (h : Holds w (clf f.n.a 182 (f.cells sb x (pa sb C)) :: tr sb f.n.a f.o :: cx sb f.n.a C :: l)) : Holds w (cx sb x (f :: C) :: l) := Holds.grp (l := [_, _, _]) h
theorem Holds.sg_cons {x q : Nat} {f : Fr K} {S : List (Fr K)} (h : Holds w (sg sb x (f :: S) q :: l)) : Holds w (clf f.n.a 182 (f.cells sb (top x S) q) :: tr sb f.n.a f.o :: sg sb x S f.n.a :: l) := Holds.ungrp h
theorem Holds.cons_sg {x q : Nat} {f : Fr K} {S : List (Fr K)} (h : Holds w (clf f.n.a 182 (f.cells sb (top x S) q) :: tr sb f.n.a f.o :: sg sb x S f.n.a :: l)) : Holds w (sg sb x (f :: S) q :: l) := Holds.grp (l := [_, _, _]) h
theorem Holds.sg_cx {x : Nat} : ∀ {S C : List (Fr K)}, Holds w (sg sb x S (pa sb C) :: cx sb (top x S) C :: l) → Holds w (cx sb x (S.reverse ++ C) :: l)
  | [], C, h => by simpa [top] using h.tail
  | f :: S, C, h => by
    have h1 := Holds.sg_cons h
    have h2 : Holds w (clf f.n.a 182 (f.cells sb (top x S) (pa sb C)) :: tr sb f.n.a f.o :: cx sb f.n.a C :: sg sb x S f.n.a :: l) := Sat.cons_map (fun g' h' => Sat.cons_map (fun g'' h'' => Sat.swap h'') h') h1
    have h3 : Holds w (cx sb (top x S) (f :: C) :: sg sb x S f.n.a :: l) := Holds.cons_cx h2
    have h4 := Holds.sg_cx (S := S) (C := f :: C) (Sat.swap h3)
    simpa using h4
theorem Holds.plug_in : ∀ {C : List (Fr K)} {t : Tr K}, Holds w (tr sb (pa sb C) t :: cx sb (rt sb t) C :: l) → Holds w (tr sb sb (plug C t) :: l)
  | [], t, h => by
    have h1 : Holds w (cx sb (rt sb t) ([] : List (Fr K)) :: tr sb (pa sb []) t :: l) := Sat.swap h
    exact h1.tail
  | f :: C, t, h => by
    have h1 : Holds w (clf f.n.a 182 (f.cells sb (rt sb t) (pa sb C)) :: tr sb f.n.a f.o :: cx sb f.n.a C :: tr sb f.n.a t :: l) := Holds.cx_cons (Sat.swap h)
    refine Holds.plug_in (C := C) (t := f.fill t) ?_
    obtain ⟨d, n, o⟩ := f
    cases d
    · have h2 : Holds w (clf n.a 182 (n.cells (rt sb o) (rt sb t) (pa sb C)) :: tr sb n.a o :: tr sb n.a t :: cx sb n.a C :: l) := Sat.cons_map (fun _ h => Sat.cons_map (fun _ h => Sat.swap h) h) h1
      exact Holds.nd_tr h2
    · have h2 : Holds w (clf n.a 182 (n.cells (rt sb t) (rt sb o) (pa sb C)) :: tr sb n.a t :: tr sb n.a o :: cx sb n.a C :: l) := Sat.cons_map (fun _ h => Sat.swap (Sat.cons_map (fun _ h => Sat.swap h) h)) h1
      exact Holds.nd_tr h2
end

end Go.Proofs.YtlnihndjepjagaaGreat
set_option linter.unusedVariables false
set_option linter.unusedSimpArgs false
namespace Go.Proofs.YtlnihndjepjagaaGreat
open Go Go.RowKit Gw Tryz
open Go.Value renaming int → vI, bool → vB, slice → vS, pointer → vP, agg → vA, tuple → vT

/-! ### What stands at the root of a piece -/
section
variable {K : Type} {sb : Nat} {w : World} {l : List SP}
def rmx : Tr K → Option (Value × K) | .lf => none | .nd n _ _ => some (n.mx, n.km)
structure RtRd (w : World) (a : Nat) (m : Option (Value × K)) : Prop where
  blk : Blk w a
  rd : ∀ x, m = some x → w.cell? ⟨a, 3, none⟩ = some x.1
theorem clf_off {l : List SP} {g : HP} {a b : Nat} {T U : TypeId} {xs ys : List Value} {i j : Nat} (h : Sat l g) (hi : l[i]? = some (clf a T xs)) (hj : l[j]? = some (clf b U ys)) (hij : i ≠ j) : a ≠ b := by
  obtain ⟨h1, k, s, t, dd, e1, r⟩ := Sat.bring i hi h
  have hj' : ∃ q : Nat, (l.eraseIdx i)[q]? = some (clf b U ys) := by
    by_cases hlt : j < i
    · exact ⟨j, by rw [List.getElem?_eraseIdx_of_lt hlt]; exact hj⟩
    · exact ⟨j - 1, by rw [List.getElem?_eraseIdx_of_ge (by omega)]; rw [show j - 1 + 1 = j by omega]; exact hj⟩
  obtain ⟨q, hq⟩ := hj'
  obtain ⟨h2, s2, e2⟩ := Sat.at q hq r
  rintro rfl
  have e1' : h1 a = _ := e1
  have e2' : h2 a = _ := e2
  rcases dd a with x | x
  · rw [x] at e1'; cases e1'
  · rw [s2 _ _ e2'] at x; cases x
theorem Holds.ne_f (h : Holds w l) {a b : Nat} {T U : TypeId} {xs ys : List Value} (i : Nat) (hi : l[i]? = some (clf a T xs)) (j : Nat) (hj : l[j]? = some (clf b U ys)) (hij : i ≠ j) : a ≠ b := clf_off h hi hj hij
theorem Holds.nd_at {p : Nat} {n : ND K} {a b : Tr K} (h : Holds w l) (i : Nat) (hi : l[i]? = some (tr sb p (.nd n a b))) : Holds w (clf n.a 182 (n.cells (rt sb a) (rt sb b) p) :: l.eraseIdx i) := by
  have h1 : Holds w (tr sb p (.nd n a b) :: l.eraseIdx i) := h.bring i hi
  exact Sat.cons_map (fun _ h => (Sat.tail (Sat.tail h))) (Holds.tr_nd h1)
theorem erase_at {l : List SP} {i j : Nat} {A : SP} (hj : l[j]? = some A) (hij : i ≠ j) : ∃ q : Nat, (l.eraseIdx i)[q]? = some A := by
  by_cases hlt : j < i
  · exact ⟨j, by rw [List.getElem?_eraseIdx_of_lt hlt]; exact hj⟩
  · exact ⟨j - 1, by rw [List.getElem?_eraseIdx_of_ge (by omega)]; rw [show j - 1 + 1 = j by omega]; exact hj⟩
theorem Holds.ne_tr {p a : Nat} {t : Tr K} {T : TypeId} {xs : List Value} (h : Holds w l) (i : Nat) (hi : l[i]? = some (clf a T xs)) (j : Nat) (hj : l[j]? = some (tr sb p t)) (hij : j ≠ i) (hs : a ≠ sb) : a ≠ rt sb t := by
  cases t with
  | lf => exact hs
  | nd n u v =>
    have h1 := Holds.nd_at h j hj
    obtain ⟨q, hq⟩ := erase_at hi hij
    have := clf_off h1 (i := q + 1) (j := 0) (by simpa using hq) rfl (by omega)
    exact this
theorem Holds.tr_rd {p : Nat} {t : Tr K} {T : TypeId} {xs : List Value} (h : Holds w l) (i : Nat) (hi : l[i]? = some (tr sb p t)) (k : Nat) (hk : l[k]? = some (clf sb T xs)) : RtRd w (rt sb t) (rmx t) := by
  cases t with
  | lf => exact ⟨Holds.blk h k hk, fun x hx => by cases hx⟩
  | nd n u v =>
    have h1 := Holds.nd_at h i hi
    exact ⟨Holds.blk h1 0 rfl, fun x hx => by cases hx; exact Holds.clf_cell h1 0 rfl rfl⟩
theorem Holds.tr_iff {p : Nat} {t : Tr K} {T : TypeId} {xs : List Value} (h : Holds w l) (i : Nat) (hi : l[i]? = some (tr sb p t)) (k : Nat) (hk : l[k]? = some (clf sb T xs)) (hik : i ≠ k) : rt sb t = sb ↔ (rmx t).isNone = true := by
  cases t with
  | lf => exact ⟨fun _ => rfl, fun _ => rfl⟩
  | nd n u v =>
    have h1 := Holds.nd_at h i hi
    obtain ⟨q, hq⟩ := erase_at hk hik
    have := clf_off h1 (i := q + 1) (j := 0) (by simpa using hq) rfl (by omega)
    exact ⟨fun e => absurd e.symm this, fun e => by cases e⟩
def ha (sb : Nat) : Option (ND K × Nat × Nat × Nat) → Nat | none => sb | some x => x.1.a
def hol : Option (ND K × Nat × Nat × Nat) → SP | none => pu True | some x => clf x.1.a 182 (x.1.cells x.2.1 x.2.2.1 x.2.2.2)
def hmx : Option (ND K × Nat × Nat × Nat) → List (Fr K) → Option (Value × K) | H, [] => H.map fun x => (x.1.mx, x.1.km) | _, f :: _ => some (f.n.mx, f.n.km)
theorem Holds.ho_rd {H : Option (ND K × Nat × Nat × Nat)} {S : List (Fr K)} {q : Nat} {T : TypeId} {xs : List Value} (h : Holds w l) (i : Nat) (hi : l[i]? = some (hol H)) (j : Nat) (hj : l[j]? = some (sg sb (ha sb H) S q)) (k : Nat) (hk : l[k]? = some (clf sb T xs)) :
    RtRd w (top (ha sb H) S) (hmx H S) := by
  cases S with
  | nil =>
    cases H with
    | none => exact ⟨Holds.blk h k hk, fun x hx => by cases hx⟩
    | some x => exact ⟨Holds.blk (b := x.1.a) h i hi, fun y hy => by cases hy; exact Holds.clf_cell (b := x.1.a) h i hi rfl⟩
  | cons f S =>
    have h1 : Holds w (clf f.n.a 182 (f.cells sb (top (ha sb H) S) q) :: tr sb f.n.a f.o :: sg sb (ha sb H) S f.n.a :: l.eraseIdx j) := Holds.sg_cons (h.bring j hj)
    exact ⟨Holds.blk h1 0 rfl, fun y hy => by cases hy; exact Holds.clf_cell h1 0 rfl (by unfold Fr.cells; split <;> rfl)⟩
theorem Holds.ho_iff {H : Option (ND K × Nat × Nat × Nat)} {S : List (Fr K)} {q : Nat} {T : TypeId} {xs : List Value} (h : Holds w l) (i : Nat) (hi : l[i]? = some (hol H)) (j : Nat) (hj : l[j]? = some (sg sb (ha sb H) S q)) (k : Nat) (hk : l[k]? = some (clf sb T xs))
    (hik : i ≠ k) (hjk : j ≠ k) : top (ha sb H) S = sb ↔ (hmx H S).isNone = true := by
  cases S with
  | nil =>
    cases H with
    | none => exact ⟨fun _ => rfl, fun _ => rfl⟩
    | some x => exact ⟨fun e => absurd e (clf_off (a := x.1.a) h hi hk hik), fun e => by cases e⟩
  | cons f S =>
    have h1 : Holds w (clf f.n.a 182 (f.cells sb (top (ha sb H) S) q) :: tr sb f.n.a f.o :: sg sb (ha sb H) S f.n.a :: l.eraseIdx j) := Holds.sg_cons (h.bring j hj)
    obtain ⟨r, hr⟩ := erase_at hk hjk
    have := clf_off h1 (i := 0) (j := r + 3) rfl (by simpa using hr) (by omega)
    exact ⟨fun e => absurd e this, fun e => by cases e⟩
theorem dec_nbool {a c : Nat} {b : Bool} (h : a = c ↔ b = true) : decide (a ≠ c) = !b := by cases b <;> simp_all
end
/-! ### The greatest end -/
section
variable {K : Type} (O : KO K)
def pick (a : Value × K) : Option (Value × K) → Value × K | none => a | some b => if 0 < O.cm b.2 a.2 then b else a
def fmx (h : Option (Value × K)) (f : Fr K) : Value × K := if f.d then pick O (pick O (f.n.e, f.n.ke) h) (rmx f.o) else pick O (pick O (f.n.e, f.n.ke) (rmx f.o)) h
def ND.setmx (n : ND K) (m : Value × K) : ND K := { n with mx := m.1, km := m.2 }
def Fr.setmx (f : Fr K) (m : Value × K) : Fr K := { f with n := f.n.setmx m }
def upC : Option (Value × K) → List (Fr K) → List (Fr K)
  | _, [] => []
  | h, f :: C => if O.cm f.n.km (fmx O h f).2 = 0 then f :: C else f.setmx (fmx O h f) :: upC (some (fmx O h f)) C
def VOk (R : HP) (m : Option (Value × K)) : Prop := ∀ x, m = some x → O.Val R x.1 x.2
structure NOk (R : HP) (n : ND K) : Prop where
  b : O.Val R n.b n.kb
  e : O.Val R n.e n.ke
  m : O.Val R n.mx n.km
  v : n.v.oneCell' = true
def TOk (R : HP) : Tr K → Prop | .lf => True | .nd n a b => NOk O R n ∧ TOk R a ∧ TOk R b
def COk (R : HP) (C : List (Fr K)) : Prop := ∀ f ∈ C, NOk O R f.n ∧ TOk O R f.o
variable {O}
theorem TOk.mx {R : HP} {t : Tr K} (h : TOk O R t) : VOk O R (rmx t) := by
  cases t with
  | lf => intro x hx; cases hx
  | nd n a b => intro x hx; cases hx; exact h.1.m
theorem VOk.so_ {R : HP} {m : Value × K} (h : O.Val R m.1 m.2) : VOk O R (some m) := fun x hx => by cases hx; exact h
theorem VOk.pk_ {R : HP} {a : Value × K} {b : Option (Value × K)} (h : O.Val R a.1 a.2) (hb : VOk O R b) : O.Val R (pick O a b).1 (pick O a b).2 := by
  cases b with
  | none => exact h
  | some b =>
    by_cases hc : 0 < O.cm b.2 a.2
    · rw [show pick O a (some b) = b from if_pos hc]; exact hb b rfl
    · rw [show pick O a (some b) = a from if_neg hc]; exact h
theorem VOk.mono {R R' : HP} (s : Gw.Sub R R') {m : Option (Value × K)} (h : VOk O R m) : VOk O R' m := fun x hx => O.mono s (h x hx)
theorem NOk.mono {R R' : HP} (s : Gw.Sub R R') {n : ND K} (h : NOk O R n) : NOk O R' n := ⟨O.mono s h.b, O.mono s h.e, O.mono s h.m, h.v⟩
theorem TOk.mono {R R' : HP} (s : Gw.Sub R R') : ∀ {t : Tr K}, TOk O R t → TOk O R' t
  | .lf, _ => trivial
  | .nd n a b, h => ⟨h.1.mono s, h.2.1.mono s, h.2.2.mono s⟩
theorem COk.mono {R R' : HP} (s : Gw.Sub R R') {C : List (Fr K)} (h : COk O R C) : COk O R' C := fun f hf => ⟨(h f hf).1.mono s, (h f hf).2.mono s⟩
theorem pick_none (a : Value × K) : pick O a none = a := rfl
theorem pick_gt {a b : Value × K} (h : 0 < O.cm b.2 a.2) : pick O a (some b) = b := if_pos h
theorem pick_le {a b : Value × K} (h : ¬ 0 < O.cm b.2 a.2) : pick O a (some b) = a := if_neg h
theorem upC_stop {h : Option (Value × K)} {f : Fr K} {C : List (Fr K)} {m : Value × K} (hm : fmx O h f = m) (he : O.cm f.n.km m.2 = 0) : upC O h (f :: C) = f :: C := by subst hm; exact if_pos he
theorem upC_go {h : Option (Value × K)} {f : Fr K} {C : List (Fr K)} {m : Value × K} (hm : fmx O h f = m) (he : ¬ O.cm f.n.km m.2 = 0) : upC O h (f :: C) = f.setmx m :: upC O (some m) C := by subst hm; exact if_neg he
end

end Go.Proofs.YtlnihndjepjagaaGreat
set_option linter.unusedVariables false
set_option linter.unusedSimpArgs false
namespace Go.Proofs.YtlnihndjepjagaaGreat
open Go Go.RowKit Gw Tryz
open Go.Value renaming int → vI, bool → vB, slice → vS, pointer → vP, agg → vA, tuple → vT

section
variable {P : Program} {n : Nat} {e : Env} {w : World} {d : Option Nat} {ty : TypeId} {pos : String} {af : Array Edge} {g : Option (Nat × Bool)}
theorem x_eqP {t u te : TypeId} {x y : Operand} {p : Addr} {q : Nat × Nat × Option Value} (hx : ev n e x = .pointer (some p)) (hy : ev n e y = .pointer (some p)) (hu : P.underlying t = some (.pointer te)) (hz : tin P te = some q) :
    (execOp (ev n e) ⟨d, .binOp .eql t x y u, ty, pos, af, g⟩).run P w = .ok (.value (.bool true)) w := by
  simp only [execOp]
  rw [hx, hy]
  refine run_v _ ?_
  have h1 : (eqGuard .eql t x y (.pointer (some p)) (.pointer (some p))).run P w = .ok () w := by simp [eqGuard]
  obtain ⟨j, hj, -⟩ : ∃ j, P.info? te = some j ∧ True := by
    unfold tin at hz
    cases h : P.info? te with
    | none => rw [h] at hz; cases hz
    | some j => exact ⟨j, rfl, trivial⟩
  simp only [Sem.run_bind, h1, Result.andThen_ok]
  rw [run_eql_ptr_same w p hu hj]
theorem x_neP {t u te : TypeId} {x y : Operand} {p : Addr} {q : Nat × Nat × Option Value} (hx : ev n e x = .pointer (some p)) (hy : ev n e y = .pointer (some p)) (hu : P.underlying t = some (.pointer te)) (hz : tin P te = some q) :
    (execOp (ev n e) ⟨d, .binOp .neq t x y u, ty, pos, af, g⟩).run P w = .ok (.value (.bool false)) w := by
  simp only [execOp]
  rw [hx, hy]
  refine run_v _ ?_
  have h1 : (eqGuard .neq t x y (.pointer (some p)) (.pointer (some p))).run P w = .ok () w := by simp [eqGuard]
  obtain ⟨j, hj, -⟩ : ∃ j, P.info? te = some j ∧ True := by
    unfold tin at hz
    cases h : P.info? te with
    | none => rw [h] at hz; cases hz
    | some j => exact ⟨j, rfl, trivial⟩
  have key : ∀ dd : Nat, (Op.equalIn (dd + 1) t (.pointer (some p)) (.pointer (some p))).run P w = .ok true w := fun dd => by
    simp [Op.equalIn, run_underlying hu, sizeOf, typeInfo, hj, run_sameAddr_same]
  have h2 : (Op.equal t (.pointer (some p)) (.pointer (some p))).run P w = .ok true w := key 9999
  simp only [Sem.run_bind, h1, Result.andThen_ok, binOp]
  simp [h2]
end
theorem isNone_some {α : Type} {o : Option α} (h : o.isNone = false) : ∃ x, o = some x := by cases o with | none => cases h | some x => exact ⟨x, rfl⟩
theorem isNone_none {α : Type} {o : Option α} (h : o.isNone = true) : o = none := by cases o with | none => rfl | some x => cases h


set_option maxHeartbeats 8000000 in
theorem itUpMax (R : HP) (K : Type) (O : KO K) (sb : Nat) (sc : List Value) (U0 : Option (ND K × Nat × Nat × Nat)) (C : List (Fr K)) (hC : COk O R C) (hV0 : VOk O R (hmx U0 ([] : List (Fr K)))) :
    Tri Tryz.prog 152 #[(vQ (pa sb C)), (vQ sb)] R [hol U0, cx sb (ha sb U0) C, clf sb 182 sc] (fun v__ post__ => v__ = (vT #[]) ∧ post__ = [hol U0, cx sb (ha sb U0) (upC O (hmx U0 []) C), clf sb 182 sc]) := by
 refine Tri.into (n := 81) (al := [(vQ (pa sb C)), (vQ sb)]) func152 rfl ntmps152 rfl rfl fun w F H => ?_
 refine C_block ?_
 have H1_ : Holds w (sg sb (ha sb U0) ([] : List (Fr K)) (pa sb C) :: ro R :: hol U0 :: cx sb (ha sb U0) C :: clf sb 182 sc :: F) := Holds.sg_nil H
 have eH2_ : cx sb (ha sb U0) C = cx sb (top (ha sb U0) ([] : List (Fr K))) C := by first | rfl | (congr 1 <;> first | rfl | omega | (simp; done) | (simp; omega))
 have H2_ : Holds w (sg sb (ha sb U0) ([] : List (Fr K)) (pa sb C) :: ro R :: hol U0 :: cx sb (top (ha sb U0) ([] : List (Fr K))) C :: clf sb 182 sc :: F) := cast1 (P := fun c__ => Holds w (sg sb (ha sb U0) ([] : List (Fr K)) (pa sb C) :: ro R :: hol U0 :: c__ :: clf sb 182 sc :: F)) eH2_ H1_
 refine C_loop (γ := (List (Fr K)) × (List (Fr K))) (fun x__ a__ w1__ => match x__ with | ⟨S, C1⟩ => ∃ h : Env, a__ = mkA 81 (upd (upd h 0 (vQ (pa sb C1))) 1 (vQ sb)) [] ∧ Holds w1__ (sg sb (ha sb U0) S (pa sb C1) :: ro R :: hol U0 :: cx sb (top (ha sb U0) S) C1 :: clf sb 182 sc :: F) ∧ Same w w1__ ∧ (COk O R C1) ∧ (VOk O R (hmx U0 S)) ∧ (upC O (hmx U0 []) C = S.reverse ++ upC O (hmx U0 S) C1)) (fun x__ => match x__ with | ⟨S, C1⟩ => C1.length) (⟨([] : List (Fr K)), C⟩) ⟨_, congrArg (fun e => mkA 81 e []) (ch (ch rfl rfl) rfl), H2_, (Same.refl w), (hC), (hV0), (rfl)⟩ ?_
 rintro ⟨S, C1⟩ _ w3_ ⟨h, rfl, H4_, S5_, hC1, hV, heq⟩
 refine C_seq (fun _ hK6_ => ?_)
 refine cR fun _ hK7_ => ?_
 rcases C1 with _ | ⟨⟨_ | _, f8_n, f8_o⟩, f8_C⟩
 ·skip
  refine sm (vQ sb) ?_
  refine sm (vQ sb) ?_
  refine sv (v := (vB false)) (x_neP rfl rfl underlying173 z182) ?_
  refine wn (hK7_ _ _ ?_)
  refine C_condF rfl ?_
  refine C_exit (X_thenX (X_thenX (X_blkHit ?_)))
  refine R_0 rfl ?_
  have hfin_ : S.reverse ++ ([] : List (Fr K)) = upC O (hmx U0 []) C := heq.symm
  have H9_ := ((Holds.bring (Holds.bring H4_ 3 rfl) 1 rfl) :)
  have H10_ := Holds.sg_cx (S := S) (C := ([] : List (Fr K))) H9_
  have H11_ := H10_; rw [hfin_] at H11_
  have H12_ := Holds.pkF H11_ [1, 1, 0, 0] 0
  exact ⟨_, _, rfl, ⟨rfl, rfl⟩, S5_, H12_⟩
 ·skip
  have H13_ := ((Holds.bring H4_ 3 rfl) :)
  have H14_ := Holds.cx_cons H13_
  have f8_k := hC1 (⟨false, f8_n, f8_o⟩ : Fr K) (List.mem_cons_self ..)
  have f8_r : COk O R f8_C := fun f hf => hC1 f (List.mem_cons_of_mem _ hf)
  refine sm (vQ f8_n.a) ?_
  refine sm (vQ sb) ?_
  have hpc15_ : f8_n.a ≠ sb := Holds.ne_f H14_ 0 rfl 6 rfl (by decide)
  refine sv (v := (vB true)) (x_cast (x_nePN rfl rfl underlying173 z182 (by decide) (Holds.blk H14_ 0 rfl) (Holds.blk H14_ 6 rfl)) (congrArg vB (decide_eq_true hpc15_))) ?_
  refine wn (hK7_ _ _ ?_)
  refine C_condT rfl ?_
  refine C_skip (X_then (hK6_ _ _ ?_))
  refine C_block ?_
  refine cR fun _ hK16_ => ?_
  refine sm (vQ f8_n.a) ?_
  refine sv (v := (vQ f8_n.a)) (by kernel_rfl) ?_
  refine sv (v := (vP (some ⟨f8_n.a, 3, none⟩))) (by kernel_rfl) ?_
  refine sv (v := f8_n.mx) (x_load1 rfl underlying175 rfl ((Holds.rdf H14_ 0 rfl) 3 f8_n.mx rfl)) ?_
  refine sv (v := f8_n.mx) (x_assign rfl) ?_
  refine wn (hK16_ _ _ ?_)
  refine cR fun _ hK17_ => ?_
  refine sm (vQ f8_n.a) ?_
  refine sv (v := (vQ f8_n.a)) (by kernel_rfl) ?_
  refine sv (v := (vQ f8_n.a)) (by kernel_rfl) ?_
  refine sv (v := (vQ f8_n.a)) (by kernel_rfl) ?_
  refine sv (v := (vP (some ⟨f8_n.a, 1, none⟩))) (by kernel_rfl) ?_
  refine sv (v := f8_n.e) (x_load1 rfl underlying175 rfl ((Holds.rdf H14_ 0 rfl) 1 f8_n.e rfl)) ?_
  refine sv (v := f8_n.e) (x_assign rfl) ?_
  refine wn (hK17_ _ _ ?_)
  refine C_cut (fun a__ w1__ => ∃ m1 : Value × K, ∃ h : Env, a__ = mkA 81 (upd (upd (upd (upd h 0 (vQ f8_n.a)) 1 (vQ sb)) 4 f8_n.mx) 5 m1.1) [] ∧ Holds w1__ (clf f8_n.a 182 [f8_n.b, f8_n.e, f8_n.v, f8_n.mx, (vQ (rt sb f8_o)), (vQ (top (ha sb U0) S)), (vQ (pa sb f8_C)), (vI .i64 f8_n.c)] :: tr sb f8_n.a f8_o :: cx sb f8_n.a f8_C :: sg sb (ha sb U0) S f8_n.a :: ro R :: hol U0 :: clf sb 182 sc :: F) ∧ Same w w1__ ∧ (pick O (f8_n.e, f8_n.ke) (rmx f8_o) = m1) ∧ (O.Val R m1.1 m1.2)) ?_ ?_
  ·refine cR fun _ hK21_ => ?_
   refine sm (vQ f8_n.a) ?_
   refine sv (v := (vQ f8_n.a)) (by kernel_rfl) ?_
   refine sv (v := (vP (some ⟨f8_n.a, 4, none⟩))) (by kernel_rfl) ?_
   refine sv (v := (vQ (rt sb f8_o))) (x_load1 rfl underlying173 rfl ((Holds.rdf H14_ 0 rfl) 4 (vQ (rt sb f8_o)) rfl)) ?_
   refine sm (vQ sb) ?_
   have hpc22_ : (rt sb f8_o) = sb ↔ (rmx f8_o).isNone = true := Holds.tr_iff H14_ 1 rfl 6 rfl (by decide)
   refine sv (v := (vB (!(rmx f8_o).isNone))) (x_cast (x_nePN rfl rfl underlying173 z182 (by decide) (Holds.tr_rd H14_ 1 rfl 6 rfl).blk (Holds.blk H14_ 6 rfl)) (congrArg vB (dec_nbool hpc22_))) ?_
   refine sm (vB (!(rmx f8_o).isNone)) ?_
   rcases Bool.eq_false_or_eq_true (!(rmx f8_o).isNone) with c23_t | c23_f
   ·skip
    obtain ⟨m24_, m24_h⟩ : ∃ x, (rmx f8_o) = some x := isNone_some (by simpa using c23_t)
    refine S_yes (j := 6) (dj := 25) (b := true) rfl rfl (congrArg vB c23_t) (T_val (v := (vQ f8_n.a)) (x_move rfl) ?_)
    refine S_yes (j := 6) (dj := 25) (b := true) rfl rfl (congrArg vB c23_t) (T_val (v := (vQ f8_n.a)) (by kernel_rfl) ?_)
    refine S_yes (j := 6) (dj := 25) (b := true) rfl rfl (congrArg vB c23_t) (T_val (v := (vP (some ⟨f8_n.a, 4, none⟩))) (by kernel_rfl) ?_)
    refine S_yes (j := 6) (dj := 25) (b := true) rfl rfl (congrArg vB c23_t) (T_val (v := (vQ (rt sb f8_o))) (x_load1 rfl underlying173 rfl ((Holds.rdf H14_ 0 rfl) 4 (vQ (rt sb f8_o)) rfl)) ?_)
    refine S_yes (j := 6) (dj := 25) (b := true) rfl rfl (congrArg vB c23_t) (T_val (v := (vQ (rt sb f8_o))) (by kernel_rfl) ?_)
    refine S_yes (j := 6) (dj := 25) (b := true) rfl rfl (congrArg vB c23_t) (T_val (v := (vP (some ⟨(rt sb f8_o), 3, none⟩))) (by kernel_rfl) ?_)
    refine S_yes (j := 6) (dj := 25) (b := true) rfl rfl (congrArg vB c23_t) (T_val (v := m24_.1) (x_load1 rfl underlying175 rfl ((Holds.tr_rd H14_ 1 rfl 6 rfl).rd m24_ m24_h)) ?_)
    refine S_yes (j := 6) (dj := 25) (b := true) rfl rfl (congrArg vB c23_t) (T_val (v := f8_n.e) (x_move rfl) ?_)
    refine S_yes (j := 6) (dj := 25) (b := true) rfl rfl (congrArg vB c23_t) (T_cmp rfl rfl (O.cmp (TOk.mx f8_k.2 m24_ m24_h) (f8_k.1.e)) H14_ 4 rfl ?_)
    intro w25_ S27_ H26_
    have S28_ := Same.trans S5_ S27_
    refine S_yes (j := 6) (dj := 25) (b := true) rfl rfl (congrArg vB c23_t) (T_val (v := (vB (decide (0 < O.cm m24_.2 f8_n.ke)))) (x_bin rfl rfl rfl) ?_)
    refine S_list (T_pickT (v := (vB (decide (0 < O.cm m24_.2 f8_n.ke)))) (congrArg vB c23_t) rfl ?_)
    refine wn (hK21_ _ _ ?_)
    refine C_cond (b := decide (0 < O.cm m24_.2 f8_n.ke)) rfl (fun c29_t => ?_) (fun c29_f => ?_)
    ·have c29_tp : 0 < O.cm m24_.2 f8_n.ke := of_decide_eq_true c29_t
     refine C_reg ?_
     refine sm (vQ f8_n.a) ?_
     refine sv (v := (vQ f8_n.a)) (by kernel_rfl) ?_
     refine sv (v := (vP (some ⟨f8_n.a, 4, none⟩))) (by kernel_rfl) ?_
     refine sv (v := (vQ (rt sb f8_o))) (x_load1 rfl underlying173 rfl ((Holds.rdf H26_ 0 rfl) 4 (vQ (rt sb f8_o)) rfl)) ?_
     refine sv (v := (vQ (rt sb f8_o))) (by kernel_rfl) ?_
     refine sv (v := (vP (some ⟨(rt sb f8_o), 3, none⟩))) (by kernel_rfl) ?_
     refine sv (v := m24_.1) (x_load1 rfl underlying175 rfl ((Holds.tr_rd H26_ 1 rfl 6 rfl).rd m24_ m24_h)) ?_
     refine sv (v := m24_.1) (x_assign rfl) ?_
     refine wpList_nil (X_then ?_)
     exact ⟨m24_, _, congrArg (fun e => mkA 81 e []) (ch (ch (ch (ch rfl rfl) rfl) rfl) rfl), H26_, S28_, (by rw [m24_h]; exact pick_gt c29_tp), ((TOk.mx f8_k.2 m24_ m24_h))⟩
    ·have c29_fp : ¬ (0 < O.cm m24_.2 f8_n.ke) := of_decide_eq_false c29_f
     refine C_skip (X_then ?_)
     exact ⟨(f8_n.e, f8_n.ke), _, congrArg (fun e => mkA 81 e []) (ch (ch (ch (ch rfl rfl) rfl) rfl) ((by first | rfl | omega | (simp; done) | (simp; omega)) : f8_n.e = ((f8_n.e, f8_n.ke).1))), H26_, S28_, (by rw [m24_h]; exact pick_le c29_fp), (f8_k.1.e)⟩
   ·skip
    have m30_ : (rmx f8_o) = none := isNone_none (by simpa using c23_f)
    refine S_no (j := 6) (dj := 25) (b := false) rfl rfl (congrArg vB c23_f) (by decide) ?_
    refine S_no (j := 6) (dj := 25) (b := false) rfl rfl (congrArg vB c23_f) (by decide) ?_
    refine S_no (j := 6) (dj := 25) (b := false) rfl rfl (congrArg vB c23_f) (by decide) ?_
    refine S_no (j := 6) (dj := 25) (b := false) rfl rfl (congrArg vB c23_f) (by decide) ?_
    refine S_no (j := 6) (dj := 25) (b := false) rfl rfl (congrArg vB c23_f) (by decide) ?_
    refine S_no (j := 6) (dj := 25) (b := false) rfl rfl (congrArg vB c23_f) (by decide) ?_
    refine S_no (j := 6) (dj := 25) (b := false) rfl rfl (congrArg vB c23_f) (by decide) ?_
    refine S_no (j := 6) (dj := 25) (b := false) rfl rfl (congrArg vB c23_f) (by decide) ?_
    refine S_no (j := 6) (dj := 25) (b := false) rfl rfl (congrArg vB c23_f) (by decide) ?_
    refine S_no (j := 6) (dj := 25) (b := false) rfl rfl (congrArg vB c23_f) (by decide) ?_
    refine S_list (T_pickF (v := (vB false)) (congrArg vB c23_f) rfl ?_)
    refine wn (hK21_ _ _ ?_)
    refine C_condF rfl ?_
    refine C_skip (X_then ?_)
    exact ⟨(f8_n.e, f8_n.ke), _, congrArg (fun e => mkA 81 e []) (ch (ch (ch (ch rfl rfl) rfl) rfl) ((by first | rfl | omega | (simp; done) | (simp; omega)) : f8_n.e = ((f8_n.e, f8_n.ke).1))), H14_, S5_, (by rw [m30_]; rfl), (f8_k.1.e)⟩
  ·rintro _ w18_ ⟨m1, h, rfl, H19_, S20_, hm1, hv1⟩
   refine C_cut (fun a__ w1__ => ∃ m2 : Value × K, ∃ h : Env, a__ = mkA 81 (upd (upd (upd (upd h 0 (vQ f8_n.a)) 1 (vQ sb)) 4 f8_n.mx) 5 m2.1) [] ∧ Holds w1__ (clf f8_n.a 182 [f8_n.b, f8_n.e, f8_n.v, f8_n.mx, (vQ (rt sb f8_o)), (vQ (top (ha sb U0) S)), (vQ (pa sb f8_C)), (vI .i64 f8_n.c)] :: tr sb f8_n.a f8_o :: cx sb f8_n.a f8_C :: sg sb (ha sb U0) S f8_n.a :: ro R :: hol U0 :: clf sb 182 sc :: F) ∧ Same w w1__ ∧ (pick O m1 (hmx U0 S) = m2) ∧ (O.Val R m2.1 m2.2)) ?_ ?_
   ·refine cR fun _ hK34_ => ?_
    refine sm (vQ f8_n.a) ?_
    refine sv (v := (vQ f8_n.a)) (by kernel_rfl) ?_
    refine sv (v := (vP (some ⟨f8_n.a, 5, none⟩))) (by kernel_rfl) ?_
    refine sv (v := (vQ (top (ha sb U0) S))) (x_load1 rfl underlying173 rfl ((Holds.rdf H19_ 0 rfl) 5 (vQ (top (ha sb U0) S)) rfl)) ?_
    refine sm (vQ sb) ?_
    have hpc35_ : (top (ha sb U0) S) = sb ↔ (hmx U0 S).isNone = true := Holds.ho_iff H19_ 5 rfl 3 rfl 6 rfl (by decide) (by decide)
    refine sv (v := (vB (!(hmx U0 S).isNone))) (x_cast (x_nePN rfl rfl underlying173 z182 (by decide) (Holds.ho_rd H19_ 5 rfl 3 rfl 6 rfl).blk (Holds.blk H19_ 6 rfl)) (congrArg vB (dec_nbool hpc35_))) ?_
    refine sm (vB (!(hmx U0 S).isNone)) ?_
    rcases Bool.eq_false_or_eq_true (!(hmx U0 S).isNone) with c36_t | c36_f
    ·skip
     obtain ⟨m37_, m37_h⟩ : ∃ x, (hmx U0 S) = some x := isNone_some (by simpa using c36_t)
     refine S_yes (j := 6) (dj := 50) (b := true) rfl rfl (congrArg vB c36_t) (T_val (v := (vQ f8_n.a)) (x_move rfl) ?_)
     refine S_yes (j := 6) (dj := 50) (b := true) rfl rfl (congrArg vB c36_t) (T_val (v := (vQ f8_n.a)) (by kernel_rfl) ?_)
     refine S_yes (j := 6) (dj := 50) (b := true) rfl rfl (congrArg vB c36_t) (T_val (v := (vP (some ⟨f8_n.a, 5, none⟩))) (by kernel_rfl) ?_)
     refine S_yes (j := 6) (dj := 50) (b := true) rfl rfl (congrArg vB c36_t) (T_val (v := (vQ (top (ha sb U0) S))) (x_load1 rfl underlying173 rfl ((Holds.rdf H19_ 0 rfl) 5 (vQ (top (ha sb U0) S)) rfl)) ?_)
     refine S_yes (j := 6) (dj := 50) (b := true) rfl rfl (congrArg vB c36_t) (T_val (v := (vQ (top (ha sb U0) S))) (by kernel_rfl) ?_)
     refine S_yes (j := 6) (dj := 50) (b := true) rfl rfl (congrArg vB c36_t) (T_val (v := (vP (some ⟨(top (ha sb U0) S), 3, none⟩))) (by kernel_rfl) ?_)
     refine S_yes (j := 6) (dj := 50) (b := true) rfl rfl (congrArg vB c36_t) (T_val (v := m37_.1) (x_load1 rfl underlying175 rfl ((Holds.ho_rd H19_ 5 rfl 3 rfl 6 rfl).rd m37_ m37_h)) ?_)
     refine S_yes (j := 6) (dj := 50) (b := true) rfl rfl (congrArg vB c36_t) (T_val (v := m1.1) (x_move rfl) ?_)
     refine S_yes (j := 6) (dj := 50) (b := true) rfl rfl (congrArg vB c36_t) (T_cmp rfl rfl (O.cmp (hV m37_ m37_h) hv1) H19_ 4 rfl ?_)
     intro w38_ S40_ H39_
     have S41_ := Same.trans S20_ S40_
     refine S_yes (j := 6) (dj := 50) (b := true) rfl rfl (congrArg vB c36_t) (T_val (v := (vB (decide (0 < O.cm m37_.2 m1.2)))) (x_bin rfl rfl rfl) ?_)
     refine S_list (T_pickT (v := (vB (decide (0 < O.cm m37_.2 m1.2)))) (congrArg vB c36_t) rfl ?_)
     refine wn (hK34_ _ _ ?_)
     refine C_cond (b := decide (0 < O.cm m37_.2 m1.2)) rfl (fun c42_t => ?_) (fun c42_f => ?_)
     ·have c42_tp : 0 < O.cm m37_.2 m1.2 := of_decide_eq_true c42_t
      refine C_reg ?_
      refine sm (vQ f8_n.a) ?_
      refine sv (v := (vQ f8_n.a)) (by kernel_rfl) ?_
      refine sv (v := (vP (some ⟨f8_n.a, 5, none⟩))) (by kernel_rfl) ?_
      refine sv (v := (vQ (top (ha sb U0) S))) (x_load1 rfl underlying173 rfl ((Holds.rdf H39_ 0 rfl) 5 (vQ (top (ha sb U0) S)) rfl)) ?_
      refine sv (v := (vQ (top (ha sb U0) S))) (by kernel_rfl) ?_
      refine sv (v := (vP (some ⟨(top (ha sb U0) S), 3, none⟩))) (by kernel_rfl) ?_
      refine sv (v := m37_.1) (x_load1 rfl underlying175 rfl ((Holds.ho_rd H39_ 5 rfl 3 rfl 6 rfl).rd m37_ m37_h)) ?_
      refine sv (v := m37_.1) (x_assign rfl) ?_
      refine wpList_nil (X_then ?_)
      exact ⟨m37_, _, congrArg (fun e => mkA 81 e []) (ch (ch (ch (ch rfl rfl) rfl) rfl) rfl), H39_, S41_, (by rw [m37_h]; exact pick_gt c42_tp), ((hV m37_ m37_h))⟩
     ·have c42_fp : ¬ (0 < O.cm m37_.2 m1.2) := of_decide_eq_false c42_f
      refine C_skip (X_then ?_)
      exact ⟨m1, _, congrArg (fun e => mkA 81 e []) (ch (ch (ch (ch rfl rfl) rfl) rfl) rfl), H39_, S41_, (by rw [m37_h]; exact pick_le c42_fp), (hv1)⟩
    ·skip
     have m43_ : (hmx U0 S) = none := isNone_none (by simpa using c36_f)
     refine S_no (j := 6) (dj := 50) (b := false) rfl rfl (congrArg vB c36_f) (by decide) ?_
     refine S_no (j := 6) (dj := 50) (b := false) rfl rfl (congrArg vB c36_f) (by decide) ?_
     refine S_no (j := 6) (dj := 50) (b := false) rfl rfl (congrArg vB c36_f) (by decide) ?_
     refine S_no (j := 6) (dj := 50) (b := false) rfl rfl (congrArg vB c36_f) (by decide) ?_
     refine S_no (j := 6) (dj := 50) (b := false) rfl rfl (congrArg vB c36_f) (by decide) ?_
     refine S_no (j := 6) (dj := 50) (b := false) rfl rfl (congrArg vB c36_f) (by decide) ?_
     refine S_no (j := 6) (dj := 50) (b := false) rfl rfl (congrArg vB c36_f) (by decide) ?_
     refine S_no (j := 6) (dj := 50) (b := false) rfl rfl (congrArg vB c36_f) (by decide) ?_
     refine S_no (j := 6) (dj := 50) (b := false) rfl rfl (congrArg vB c36_f) (by decide) ?_
     refine S_no (j := 6) (dj := 50) (b := false) rfl rfl (congrArg vB c36_f) (by decide) ?_
     refine S_list (T_pickF (v := (vB false)) (congrArg vB c36_f) rfl ?_)
     refine wn (hK34_ _ _ ?_)
     refine C_condF rfl ?_
     refine C_skip (X_then ?_)
     exact ⟨m1, _, congrArg (fun e => mkA 81 e []) (ch (ch (ch (ch rfl rfl) rfl) rfl) rfl), H19_, S20_, (by rw [m43_]; rfl), (hv1)⟩
   ·rintro _ w31_ ⟨m2, h, rfl, H32_, S33_, hm2, hv2⟩
    refine C_seq (fun _ hK44_ => ?_)
    refine cR fun _ hK45_ => ?_
    refine sv (v := f8_n.mx) (x_move rfl) ?_
    refine sv (v := m2.1) (x_move rfl) ?_
    refine S_list (T_cmp rfl rfl (O.cmp (f8_k.1.m) hv2) H32_ 4 rfl ?_)
    intro w46_ S48_ H47_
    have S49_ := Same.trans S33_ S48_
    refine sv (v := (vB (decide (O.cm f8_n.km m2.2 = 0)))) (x_bin rfl rfl rfl) ?_
    refine wn (hK45_ _ _ ?_)
    refine C_cond (b := decide (O.cm f8_n.km m2.2 = 0)) rfl (fun c50_t => ?_) (fun c50_f => ?_)
    ·have c50_tp : O.cm f8_n.km m2.2 = 0 := of_decide_eq_true c50_t
     refine C_exit (X_thenX (X_blkMiss rfl (X_thenX (X_blkHit ?_))))
     refine R_0 rfl ?_
     have H51_ := Holds.cons_cx (f := (⟨false, f8_n, f8_o⟩ : Fr K)) (x := top (ha sb U0) S) H47_
     have hfin_ : S.reverse ++ ((⟨false, f8_n, f8_o⟩ : Fr K) :: f8_C) = upC O (hmx U0 []) C := by rw [heq, upC_stop (m := m2) (by show pick O (pick O _ _) _ = m2; rw [hm1, hm2]) c50_tp]
     have H52_ := ((Holds.bring H51_ 1 rfl) :)
     have H53_ := Holds.sg_cx (S := S) (C := ((⟨false, f8_n, f8_o⟩ : Fr K) :: f8_C)) H52_
     have H54_ := H53_; rw [hfin_] at H54_
     have H55_ := Holds.pkF H54_ [1, 1, 0, 0] 0
     exact ⟨_, _, rfl, ⟨rfl, rfl⟩, S49_, H55_⟩
    ·have c50_fp : ¬ (O.cm f8_n.km m2.2 = 0) := of_decide_eq_false c50_f
     refine C_skip (X_then (hK44_ _ _ ?_))
     refine cR fun _ hK56_ => ?_
     refine sm (vQ f8_n.a) ?_
     refine sv (v := m2.1) (x_move rfl) ?_
     refine sv (v := (vQ f8_n.a)) (by kernel_rfl) ?_
     refine sv (v := (vP (some ⟨f8_n.a, 3, none⟩))) (by kernel_rfl) ?_
     refine S_list0 (T_store1f (v := m2.1) rfl rfl z175 (O.one hv2) H47_ 0 rfl (Nat.le_of_ble_eq_true (by rfl)) ?_)
     intro w57_ S59_ H58_
     have S60_ := Same.trans S49_ S59_
     refine wn (hK56_ _ _ ?_)
     refine C_reg ?_
     refine sm (vQ f8_n.a) ?_
     refine sv (v := (vQ f8_n.a)) (by kernel_rfl) ?_
     refine sv (v := (vP (some ⟨f8_n.a, 6, none⟩))) (by kernel_rfl) ?_
     refine sv (v := (vQ (pa sb f8_C))) (x_load1 rfl underlying173 rfl ((Holds.rdf H58_ 0 rfl) 6 (vQ (pa sb f8_C)) rfl)) ?_
     refine sv (v := (vQ (pa sb f8_C))) (x_assign rfl) ?_
     refine wpList_nil (X_blkN (X_then ?_))
     have H61_ := ((Holds.bring (Holds.bring (Holds.bring H58_ 3 rfl) 2 rfl) 2 rfl) :)
     have H62_ := Holds.cons_sg (f := (⟨false, f8_n, f8_o⟩ : Fr K).setmx m2) (S := S) H61_
     have eH63_ : cx sb f8_n.a f8_C = cx sb (top (ha sb U0) ((⟨false, f8_n, f8_o⟩ : Fr K).setmx m2 :: S)) f8_C := by first | rfl | (congr 1 <;> first | rfl | omega | (simp; done) | (simp; omega))
     have H63_ : Holds w57_ (sg sb (ha sb U0) ((⟨false, f8_n, f8_o⟩ : Fr K).setmx m2 :: S) (pa sb f8_C) :: cx sb (top (ha sb U0) ((⟨false, f8_n, f8_o⟩ : Fr K).setmx m2 :: S)) f8_C :: ro R :: hol U0 :: clf sb 182 sc :: F) := cast1 (P := fun c__ => Holds w57_ (sg sb (ha sb U0) ((⟨false, f8_n, f8_o⟩ : Fr K).setmx m2 :: S) (pa sb f8_C) :: c__ :: ro R :: hol U0 :: clf sb 182 sc :: F)) eH63_ H62_
     have H64_ := Holds.pkF H63_ [0, 1, 1, 0, 0] 0
     exact ⟨⟨((⟨false, f8_n, f8_o⟩ : Fr K).setmx m2 :: S), f8_C⟩, ⟨_, congrArg (fun e => mkA 81 e []) (ch (ch rfl rfl) rfl), H64_, S60_, (f8_r), (VOk.so_ hv2), (by rw [heq, upC_go (m := m2) (by show pick O (pick O _ _) _ = m2; rw [hm1, hm2]) c50_fp, List.reverse_cons, List.append_assoc]; rfl)⟩, (by simp)⟩
 ·skip
  have H65_ := ((Holds.bring H4_ 3 rfl) :)
  have H66_ := Holds.cx_cons H65_
  have f8_k := hC1 (⟨true, f8_n, f8_o⟩ : Fr K) (List.mem_cons_self ..)
  have f8_r : COk O R f8_C := fun f hf => hC1 f (List.mem_cons_of_mem _ hf)
  refine sm (vQ f8_n.a) ?_
  refine sm (vQ sb) ?_
  have hpc67_ : f8_n.a ≠ sb := Holds.ne_f H66_ 0 rfl 6 rfl (by decide)
  refine sv (v := (vB true)) (x_cast (x_nePN rfl rfl underlying173 z182 (by decide) (Holds.blk H66_ 0 rfl) (Holds.blk H66_ 6 rfl)) (congrArg vB (decide_eq_true hpc67_))) ?_
  refine wn (hK7_ _ _ ?_)
  refine C_condT rfl ?_
  refine C_skip (X_then (hK6_ _ _ ?_))
  refine C_block ?_
  refine cR fun _ hK68_ => ?_
  refine sm (vQ f8_n.a) ?_
  refine sv (v := (vQ f8_n.a)) (by kernel_rfl) ?_
  refine sv (v := (vP (some ⟨f8_n.a, 3, none⟩))) (by kernel_rfl) ?_
  refine sv (v := f8_n.mx) (x_load1 rfl underlying175 rfl ((Holds.rdf H66_ 0 rfl) 3 f8_n.mx rfl)) ?_
  refine sv (v := f8_n.mx) (x_assign rfl) ?_
  refine wn (hK68_ _ _ ?_)
  refine cR fun _ hK69_ => ?_
  refine sm (vQ f8_n.a) ?_
  refine sv (v := (vQ f8_n.a)) (by kernel_rfl) ?_
  refine sv (v := (vQ f8_n.a)) (by kernel_rfl) ?_
  refine sv (v := (vQ f8_n.a)) (by kernel_rfl) ?_
  refine sv (v := (vP (some ⟨f8_n.a, 1, none⟩))) (by kernel_rfl) ?_
  refine sv (v := f8_n.e) (x_load1 rfl underlying175 rfl ((Holds.rdf H66_ 0 rfl) 1 f8_n.e rfl)) ?_
  refine sv (v := f8_n.e) (x_assign rfl) ?_
  refine wn (hK69_ _ _ ?_)
  refine C_cut (fun a__ w1__ => ∃ m1 : Value × K, ∃ h : Env, a__ = mkA 81 (upd (upd (upd (upd h 0 (vQ f8_n.a)) 1 (vQ sb)) 4 f8_n.mx) 5 m1.1) [] ∧ Holds w1__ (clf f8_n.a 182 [f8_n.b, f8_n.e, f8_n.v, f8_n.mx, (vQ (top (ha sb U0) S)), (vQ (rt sb f8_o)), (vQ (pa sb f8_C)), (vI .i64 f8_n.c)] :: tr sb f8_n.a f8_o :: cx sb f8_n.a f8_C :: sg sb (ha sb U0) S f8_n.a :: ro R :: hol U0 :: clf sb 182 sc :: F) ∧ Same w w1__ ∧ (pick O (f8_n.e, f8_n.ke) (hmx U0 S) = m1) ∧ (O.Val R m1.1 m1.2)) ?_ ?_
  ·refine cR fun _ hK73_ => ?_
   refine sm (vQ f8_n.a) ?_
   refine sv (v := (vQ f8_n.a)) (by kernel_rfl) ?_
   refine sv (v := (vP (some ⟨f8_n.a, 4, none⟩))) (by kernel_rfl) ?_
   refine sv (v := (vQ (top (ha sb U0) S))) (x_load1 rfl underlying173 rfl ((Holds.rdf H66_ 0 rfl) 4 (vQ (top (ha sb U0) S)) rfl)) ?_
   refine sm (vQ sb) ?_
   have hpc74_ : (top (ha sb U0) S) = sb ↔ (hmx U0 S).isNone = true := Holds.ho_iff H66_ 5 rfl 3 rfl 6 rfl (by decide) (by decide)
   refine sv (v := (vB (!(hmx U0 S).isNone))) (x_cast (x_nePN rfl rfl underlying173 z182 (by decide) (Holds.ho_rd H66_ 5 rfl 3 rfl 6 rfl).blk (Holds.blk H66_ 6 rfl)) (congrArg vB (dec_nbool hpc74_))) ?_
   refine sm (vB (!(hmx U0 S).isNone)) ?_
   rcases Bool.eq_false_or_eq_true (!(hmx U0 S).isNone) with c75_t | c75_f
   ·skip
    obtain ⟨m76_, m76_h⟩ : ∃ x, (hmx U0 S) = some x := isNone_some (by simpa using c75_t)
    refine S_yes (j := 6) (dj := 25) (b := true) rfl rfl (congrArg vB c75_t) (T_val (v := (vQ f8_n.a)) (x_move rfl) ?_)
    refine S_yes (j := 6) (dj := 25) (b := true) rfl rfl (congrArg vB c75_t) (T_val (v := (vQ f8_n.a)) (by kernel_rfl) ?_)
    refine S_yes (j := 6) (dj := 25) (b := true) rfl rfl (congrArg vB c75_t) (T_val (v := (vP (some ⟨f8_n.a, 4, none⟩))) (by kernel_rfl) ?_)
    refine S_yes (j := 6) (dj := 25) (b := true) rfl rfl (congrArg vB c75_t) (T_val (v := (vQ (top (ha sb U0) S))) (x_load1 rfl underlying173 rfl ((Holds.rdf H66_ 0 rfl) 4 (vQ (top (ha sb U0) S)) rfl)) ?_)
    refine S_yes (j := 6) (dj := 25) (b := true) rfl rfl (congrArg vB c75_t) (T_val (v := (vQ (top (ha sb U0) S))) (by kernel_rfl) ?_)
    refine S_yes (j := 6) (dj := 25) (b := true) rfl rfl (congrArg vB c75_t) (T_val (v := (vP (some ⟨(top (ha sb U0) S), 3, none⟩))) (by kernel_rfl) ?_)
    refine S_yes (j := 6) (dj := 25) (b := true) rfl rfl (congrArg vB c75_t) (T_val (v := m76_.1) (x_load1 rfl underlying175 rfl ((Holds.ho_rd H66_ 5 rfl 3 rfl 6 rfl).rd m76_ m76_h)) ?_)
    refine S_yes (j := 6) (dj := 25) (b := true) rfl rfl (congrArg vB c75_t) (T_val (v := f8_n.e) (x_move rfl) ?_)
    refine S_yes (j := 6) (dj := 25) (b := true) rfl rfl (congrArg vB c75_t) (T_cmp rfl rfl (O.cmp (hV m76_ m76_h) (f8_k.1.e)) H66_ 4 rfl ?_)
    intro w77_ S79_ H78_
    have S80_ := Same.trans S5_ S79_
    refine S_yes (j := 6) (dj := 25) (b := true) rfl rfl (congrArg vB c75_t) (T_val (v := (vB (decide (0 < O.cm m76_.2 f8_n.ke)))) (x_bin rfl rfl rfl) ?_)
    refine S_list (T_pickT (v := (vB (decide (0 < O.cm m76_.2 f8_n.ke)))) (congrArg vB c75_t) rfl ?_)
    refine wn (hK73_ _ _ ?_)
    refine C_cond (b := decide (0 < O.cm m76_.2 f8_n.ke)) rfl (fun c81_t => ?_) (fun c81_f => ?_)
    ·have c81_tp : 0 < O.cm m76_.2 f8_n.ke := of_decide_eq_true c81_t
     refine C_reg ?_
     refine sm (vQ f8_n.a) ?_
     refine sv (v := (vQ f8_n.a)) (by kernel_rfl) ?_
     refine sv (v := (vP (some ⟨f8_n.a, 4, none⟩))) (by kernel_rfl) ?_
     refine sv (v := (vQ (top (ha sb U0) S))) (x_load1 rfl underlying173 rfl ((Holds.rdf H78_ 0 rfl) 4 (vQ (top (ha sb U0) S)) rfl)) ?_
     refine sv (v := (vQ (top (ha sb U0) S))) (by kernel_rfl) ?_
     refine sv (v := (vP (some ⟨(top (ha sb U0) S), 3, none⟩))) (by kernel_rfl) ?_
     refine sv (v := m76_.1) (x_load1 rfl underlying175 rfl ((Holds.ho_rd H78_ 5 rfl 3 rfl 6 rfl).rd m76_ m76_h)) ?_
     refine sv (v := m76_.1) (x_assign rfl) ?_
     refine wpList_nil (X_then ?_)
     exact ⟨m76_, _, congrArg (fun e => mkA 81 e []) (ch (ch (ch (ch rfl rfl) rfl) rfl) rfl), H78_, S80_, (by rw [m76_h]; exact pick_gt c81_tp), ((hV m76_ m76_h))⟩
    ·have c81_fp : ¬ (0 < O.cm m76_.2 f8_n.ke) := of_decide_eq_false c81_f
     refine C_skip (X_then ?_)
     exact ⟨(f8_n.e, f8_n.ke), _, congrArg (fun e => mkA 81 e []) (ch (ch (ch (ch rfl rfl) rfl) rfl) ((by first | rfl | omega | (simp; done) | (simp; omega)) : f8_n.e = ((f8_n.e, f8_n.ke).1))), H78_, S80_, (by rw [m76_h]; exact pick_le c81_fp), (f8_k.1.e)⟩
   ·skip
    have m82_ : (hmx U0 S) = none := isNone_none (by simpa using c75_f)
    refine S_no (j := 6) (dj := 25) (b := false) rfl rfl (congrArg vB c75_f) (by decide) ?_
    refine S_no (j := 6) (dj := 25) (b := false) rfl rfl (congrArg vB c75_f) (by decide) ?_
    refine S_no (j := 6) (dj := 25) (b := false) rfl rfl (congrArg vB c75_f) (by decide) ?_
    refine S_no (j := 6) (dj := 25) (b := false) rfl rfl (congrArg vB c75_f) (by decide) ?_
    refine S_no (j := 6) (dj := 25) (b := false) rfl rfl (congrArg vB c75_f) (by decide) ?_
    refine S_no (j := 6) (dj := 25) (b := false) rfl rfl (congrArg vB c75_f) (by decide) ?_
    refine S_no (j := 6) (dj := 25) (b := false) rfl rfl (congrArg vB c75_f) (by decide) ?_
    refine S_no (j := 6) (dj := 25) (b := false) rfl rfl (congrArg vB c75_f) (by decide) ?_
    refine S_no (j := 6) (dj := 25) (b := false) rfl rfl (congrArg vB c75_f) (by decide) ?_
    refine S_no (j := 6) (dj := 25) (b := false) rfl rfl (congrArg vB c75_f) (by decide) ?_
    refine S_list (T_pickF (v := (vB false)) (congrArg vB c75_f) rfl ?_)
    refine wn (hK73_ _ _ ?_)
    refine C_condF rfl ?_
    refine C_skip (X_then ?_)
    exact ⟨(f8_n.e, f8_n.ke), _, congrArg (fun e => mkA 81 e []) (ch (ch (ch (ch rfl rfl) rfl) rfl) ((by first | rfl | omega | (simp; done) | (simp; omega)) : f8_n.e = ((f8_n.e, f8_n.ke).1))), H66_, S5_, (by rw [m82_]; rfl), (f8_k.1.e)⟩
  ·rintro _ w70_ ⟨m1, h, rfl, H71_, S72_, hm1, hv1⟩
   refine C_cut (fun a__ w1__ => ∃ m2 : Value × K, ∃ h : Env, a__ = mkA 81 (upd (upd (upd (upd h 0 (vQ f8_n.a)) 1 (vQ sb)) 4 f8_n.mx) 5 m2.1) [] ∧ Holds w1__ (clf f8_n.a 182 [f8_n.b, f8_n.e, f8_n.v, f8_n.mx, (vQ (top (ha sb U0) S)), (vQ (rt sb f8_o)), (vQ (pa sb f8_C)), (vI .i64 f8_n.c)] :: tr sb f8_n.a f8_o :: cx sb f8_n.a f8_C :: sg sb (ha sb U0) S f8_n.a :: ro R :: hol U0 :: clf sb 182 sc :: F) ∧ Same w w1__ ∧ (pick O m1 (rmx f8_o) = m2) ∧ (O.Val R m2.1 m2.2)) ?_ ?_
   ·refine cR fun _ hK86_ => ?_
    refine sm (vQ f8_n.a) ?_
    refine sv (v := (vQ f8_n.a)) (by kernel_rfl) ?_
    refine sv (v := (vP (some ⟨f8_n.a, 5, none⟩))) (by kernel_rfl) ?_
    refine sv (v := (vQ (rt sb f8_o))) (x_load1 rfl underlying173 rfl ((Holds.rdf H71_ 0 rfl) 5 (vQ (rt sb f8_o)) rfl)) ?_
    refine sm (vQ sb) ?_
    have hpc87_ : (rt sb f8_o) = sb ↔ (rmx f8_o).isNone = true := Holds.tr_iff H71_ 1 rfl 6 rfl (by decide)
    refine sv (v := (vB (!(rmx f8_o).isNone))) (x_cast (x_nePN rfl rfl underlying173 z182 (by decide) (Holds.tr_rd H71_ 1 rfl 6 rfl).blk (Holds.blk H71_ 6 rfl)) (congrArg vB (dec_nbool hpc87_))) ?_
    refine sm (vB (!(rmx f8_o).isNone)) ?_
    rcases Bool.eq_false_or_eq_true (!(rmx f8_o).isNone) with c88_t | c88_f
    ·skip
     obtain ⟨m89_, m89_h⟩ : ∃ x, (rmx f8_o) = some x := isNone_some (by simpa using c88_t)
     refine S_yes (j := 6) (dj := 50) (b := true) rfl rfl (congrArg vB c88_t) (T_val (v := (vQ f8_n.a)) (x_move rfl) ?_)
     refine S_yes (j := 6) (dj := 50) (b := true) rfl rfl (congrArg vB c88_t) (T_val (v := (vQ f8_n.a)) (by kernel_rfl) ?_)
     refine S_yes (j := 6) (dj := 50) (b := true) rfl rfl (congrArg vB c88_t) (T_val (v := (vP (some ⟨f8_n.a, 5, none⟩))) (by kernel_rfl) ?_)
     refine S_yes (j := 6) (dj := 50) (b := true) rfl rfl (congrArg vB c88_t) (T_val (v := (vQ (rt sb f8_o))) (x_load1 rfl underlying173 rfl ((Holds.rdf H71_ 0 rfl) 5 (vQ (rt sb f8_o)) rfl)) ?_)
     refine S_yes (j := 6) (dj := 50) (b := true) rfl rfl (congrArg vB c88_t) (T_val (v := (vQ (rt sb f8_o))) (by kernel_rfl) ?_)
     refine S_yes (j := 6) (dj := 50) (b := true) rfl rfl (congrArg vB c88_t) (T_val (v := (vP (some ⟨(rt sb f8_o), 3, none⟩))) (by kernel_rfl) ?_)
     refine S_yes (j := 6) (dj := 50) (b := true) rfl rfl (congrArg vB c88_t) (T_val (v := m89_.1) (x_load1 rfl underlying175 rfl ((Holds.tr_rd H71_ 1 rfl 6 rfl).rd m89_ m89_h)) ?_)
     refine S_yes (j := 6) (dj := 50) (b := true) rfl rfl (congrArg vB c88_t) (T_val (v := m1.1) (x_move rfl) ?_)
     refine S_yes (j := 6) (dj := 50) (b := true) rfl rfl (congrArg vB c88_t) (T_cmp rfl rfl (O.cmp (TOk.mx f8_k.2 m89_ m89_h) hv1) H71_ 4 rfl ?_)
     intro w90_ S92_ H91_
     have S93_ := Same.trans S72_ S92_
     refine S_yes (j := 6) (dj := 50) (b := true) rfl rfl (congrArg vB c88_t) (T_val (v := (vB (decide (0 < O.cm m89_.2 m1.2)))) (x_bin rfl rfl rfl) ?_)
     refine S_list (T_pickT (v := (vB (decide (0 < O.cm m89_.2 m1.2)))) (congrArg vB c88_t) rfl ?_)
     refine wn (hK86_ _ _ ?_)
     refine C_cond (b := decide (0 < O.cm m89_.2 m1.2)) rfl (fun c94_t => ?_) (fun c94_f => ?_)
     ·have c94_tp : 0 < O.cm m89_.2 m1.2 := of_decide_eq_true c94_t
      refine C_reg ?_
      refine sm (vQ f8_n.a) ?_
      refine sv (v := (vQ f8_n.a)) (by kernel_rfl) ?_
      refine sv (v := (vP (some ⟨f8_n.a, 5, none⟩))) (by kernel_rfl) ?_
      refine sv (v := (vQ (rt sb f8_o))) (x_load1 rfl underlying173 rfl ((Holds.rdf H91_ 0 rfl) 5 (vQ (rt sb f8_o)) rfl)) ?_
      refine sv (v := (vQ (rt sb f8_o))) (by kernel_rfl) ?_
      refine sv (v := (vP (some ⟨(rt sb f8_o), 3, none⟩))) (by kernel_rfl) ?_
      refine sv (v := m89_.1) (x_load1 rfl underlying175 rfl ((Holds.tr_rd H91_ 1 rfl 6 rfl).rd m89_ m89_h)) ?_
      refine sv (v := m89_.1) (x_assign rfl) ?_
      refine wpList_nil (X_then ?_)
      exact ⟨m89_, _, congrArg (fun e => mkA 81 e []) (ch (ch (ch (ch rfl rfl) rfl) rfl) rfl), H91_, S93_, (by rw [m89_h]; exact pick_gt c94_tp), ((TOk.mx f8_k.2 m89_ m89_h))⟩
     ·have c94_fp : ¬ (0 < O.cm m89_.2 m1.2) := of_decide_eq_false c94_f
      refine C_skip (X_then ?_)
      exact ⟨m1, _, congrArg (fun e => mkA 81 e []) (ch (ch (ch (ch rfl rfl) rfl) rfl) rfl), H91_, S93_, (by rw [m89_h]; exact pick_le c94_fp), (hv1)⟩
    ·skip
     have m95_ : (rmx f8_o) = none := isNone_none (by simpa using c88_f)
     refine S_no (j := 6) (dj := 50) (b := false) rfl rfl (congrArg vB c88_f) (by decide) ?_
     refine S_no (j := 6) (dj := 50) (b := false) rfl rfl (congrArg vB c88_f) (by decide) ?_
     refine S_no (j := 6) (dj := 50) (b := false) rfl rfl (congrArg vB c88_f) (by decide) ?_
     refine S_no (j := 6) (dj := 50) (b := false) rfl rfl (congrArg vB c88_f) (by decide) ?_
     refine S_no (j := 6) (dj := 50) (b := false) rfl rfl (congrArg vB c88_f) (by decide) ?_
     refine S_no (j := 6) (dj := 50) (b := false) rfl rfl (congrArg vB c88_f) (by decide) ?_
     refine S_no (j := 6) (dj := 50) (b := false) rfl rfl (congrArg vB c88_f) (by decide) ?_
     refine S_no (j := 6) (dj := 50) (b := false) rfl rfl (congrArg vB c88_f) (by decide) ?_
     refine S_no (j := 6) (dj := 50) (b := false) rfl rfl (congrArg vB c88_f) (by decide) ?_
     refine S_no (j := 6) (dj := 50) (b := false) rfl rfl (congrArg vB c88_f) (by decide) ?_
     refine S_list (T_pickF (v := (vB false)) (congrArg vB c88_f) rfl ?_)
     refine wn (hK86_ _ _ ?_)
     refine C_condF rfl ?_
     refine C_skip (X_then ?_)
     exact ⟨m1, _, congrArg (fun e => mkA 81 e []) (ch (ch (ch (ch rfl rfl) rfl) rfl) rfl), H71_, S72_, (by rw [m95_]; rfl), (hv1)⟩
   ·rintro _ w83_ ⟨m2, h, rfl, H84_, S85_, hm2, hv2⟩
    refine C_seq (fun _ hK96_ => ?_)
    refine cR fun _ hK97_ => ?_
    refine sv (v := f8_n.mx) (x_move rfl) ?_
    refine sv (v := m2.1) (x_move rfl) ?_
    refine S_list (T_cmp rfl rfl (O.cmp (f8_k.1.m) hv2) H84_ 4 rfl ?_)
    intro w98_ S100_ H99_
    have S101_ := Same.trans S85_ S100_
    refine sv (v := (vB (decide (O.cm f8_n.km m2.2 = 0)))) (x_bin rfl rfl rfl) ?_
    refine wn (hK97_ _ _ ?_)
    refine C_cond (b := decide (O.cm f8_n.km m2.2 = 0)) rfl (fun c102_t => ?_) (fun c102_f => ?_)
    ·have c102_tp : O.cm f8_n.km m2.2 = 0 := of_decide_eq_true c102_t
     refine C_exit (X_thenX (X_blkMiss rfl (X_thenX (X_blkHit ?_))))
     refine R_0 rfl ?_
     have H103_ := Holds.cons_cx (f := (⟨true, f8_n, f8_o⟩ : Fr K)) (x := top (ha sb U0) S) H99_
     have hfin_ : S.reverse ++ ((⟨true, f8_n, f8_o⟩ : Fr K) :: f8_C) = upC O (hmx U0 []) C := by rw [heq, upC_stop (m := m2) (by show pick O (pick O _ _) _ = m2; rw [hm1, hm2]) c102_tp]
     have H104_ := ((Holds.bring H103_ 1 rfl) :)
     have H105_ := Holds.sg_cx (S := S) (C := ((⟨true, f8_n, f8_o⟩ : Fr K) :: f8_C)) H104_
     have H106_ := H105_; rw [hfin_] at H106_
     have H107_ := Holds.pkF H106_ [1, 1, 0, 0] 0
     exact ⟨_, _, rfl, ⟨rfl, rfl⟩, S101_, H107_⟩
    ·have c102_fp : ¬ (O.cm f8_n.km m2.2 = 0) := of_decide_eq_false c102_f
     refine C_skip (X_then (hK96_ _ _ ?_))
     refine cR fun _ hK108_ => ?_
     refine sm (vQ f8_n.a) ?_
     refine sv (v := m2.1) (x_move rfl) ?_
     refine sv (v := (vQ f8_n.a)) (by kernel_rfl) ?_
     refine sv (v := (vP (some ⟨f8_n.a, 3, none⟩))) (by kernel_rfl) ?_
     refine S_list0 (T_store1f (v := m2.1) rfl rfl z175 (O.one hv2) H99_ 0 rfl (Nat.le_of_ble_eq_true (by rfl)) ?_)
     intro w109_ S111_ H110_
     have S112_ := Same.trans S101_ S111_
     refine wn (hK108_ _ _ ?_)
     refine C_reg ?_
     refine sm (vQ f8_n.a) ?_
     refine sv (v := (vQ f8_n.a)) (by kernel_rfl) ?_
     refine sv (v := (vP (some ⟨f8_n.a, 6, none⟩))) (by kernel_rfl) ?_
     refine sv (v := (vQ (pa sb f8_C))) (x_load1 rfl underlying173 rfl ((Holds.rdf H110_ 0 rfl) 6 (vQ (pa sb f8_C)) rfl)) ?_
     refine sv (v := (vQ (pa sb f8_C))) (x_assign rfl) ?_
     refine wpList_nil (X_blkN (X_then ?_))
     have H113_ := ((Holds.bring (Holds.bring (Holds.bring H110_ 3 rfl) 2 rfl) 2 rfl) :)
     have H114_ := Holds.cons_sg (f := (⟨true, f8_n, f8_o⟩ : Fr K).setmx m2) (S := S) H113_
     have eH115_ : cx sb f8_n.a f8_C = cx sb (top (ha sb U0) ((⟨true, f8_n, f8_o⟩ : Fr K).setmx m2 :: S)) f8_C := by first | rfl | (congr 1 <;> first | rfl | omega | (simp; done) | (simp; omega))
     have H115_ : Holds w109_ (sg sb (ha sb U0) ((⟨true, f8_n, f8_o⟩ : Fr K).setmx m2 :: S) (pa sb f8_C) :: cx sb (top (ha sb U0) ((⟨true, f8_n, f8_o⟩ : Fr K).setmx m2 :: S)) f8_C :: ro R :: hol U0 :: clf sb 182 sc :: F) := cast1 (P := fun c__ => Holds w109_ (sg sb (ha sb U0) ((⟨true, f8_n, f8_o⟩ : Fr K).setmx m2 :: S) (pa sb f8_C) :: c__ :: ro R :: hol U0 :: clf sb 182 sc :: F)) eH115_ H114_
     have H116_ := Holds.pkF H115_ [0, 1, 1, 0, 0] 0
     exact ⟨⟨((⟨true, f8_n, f8_o⟩ : Fr K).setmx m2 :: S), f8_C⟩, ⟨_, congrArg (fun e => mkA 81 e []) (ch (ch rfl rfl) rfl), H116_, S112_, (f8_r), (VOk.so_ hv2), (by rw [heq, upC_go (m := m2) (by show pick O (pick O _ _) _ = m2; rw [hm1, hm2]) c102_fp, List.reverse_cons, List.append_assoc]; rfl)⟩, (by simp)⟩
end Go.Proofs.YtlnihndjepjagaaGreat
set_option linter.unusedVariables false
set_option linter.unusedSimpArgs false
namespace Go.Proofs.YtlnihndjepjagaaGreat
open Go Go.RowKit Gw Tryz
open Go.Value renaming int → vI, bool → vB, slice → vS, pointer → vP, agg → vA, tuple → vT

section
variable {K : Type} (O : KO K)
def ra : Nat → List (Fr K) → Nat | h, [] => h | _, f :: C => ra f.n.a C
def upV (h : Option (Value × K)) (f : Fr K) : Value × K := if O.cm f.n.km (fmx O h f).2 = 0 then (f.n.mx, f.n.km) else fmx O h f
def upT (h : Option (Value × K)) (f : Fr K) (C : List (Fr K)) : List (Fr K) := if O.cm f.n.km (fmx O h f).2 = 0 then C else upC O (some (fmx O h f)) C
theorem upC_cons (h : Option (Value × K)) (f : Fr K) (C : List (Fr K)) : upC O h (f :: C) = f.setmx (upV O h f) :: upT O h f C := by
  unfold upV upT
  by_cases hc : O.cm f.n.km (fmx O h f).2 = 0
  · rw [if_pos hc, if_pos hc, upC_stop rfl hc]; rfl
  · rw [if_neg hc, if_neg hc, upC_go rfl hc]
theorem upC_nil (h : Option (Value × K)) : upC O h [] = [] := by cases h <;> rfl
theorem ra_upC : ∀ (C : List (Fr K)) (x : Nat) (h : Option (Value × K)), ra x (upC O h C) = ra x C
  | [], x, h => by rw [upC_nil]
  | f :: C, x, h => by
    rw [upC_cons]
    show ra f.n.a (upT O h f C) = ra f.n.a C
    unfold upT
    split
    · rfl
    · exact ra_upC C _ _
variable {O}
variable {R : HP}
theorem VOk.f {h : Option (Value × K)} {f : Fr K} (hh : VOk O R h) (hn : NOk O R f.n) (ho : TOk O R f.o) : O.Val R (fmx O h f).1 (fmx O h f).2 := by
  unfold fmx
  split
  · exact VOk.pk_ (VOk.pk_ hn.e hh) ho.mx
  · exact VOk.pk_ (VOk.pk_ hn.e ho.mx) hh
theorem VOk.u {h : Option (Value × K)} {f : Fr K} (hh : VOk O R h) (hn : NOk O R f.n) (ho : TOk O R f.o) : O.Val R (upV O h f).1 (upV O h f).2 := by
  unfold upV
  split
  · exact hn.m
  · exact VOk.f hh hn ho
theorem NOk.setmx {n : ND K} {m : Value × K} (hn : NOk O R n) (hm : O.Val R m.1 m.2) : NOk O R (n.setmx m) := ⟨hn.b, hn.e, hm, hn.v⟩
theorem COk.up : ∀ {C : List (Fr K)} {h : Option (Value × K)}, COk O R C → VOk O R h → COk O R (upC O h C)
  | [], h, _, _ => by rw [upC_nil]; exact fun f hf => by cases hf
  | f :: C, h, hC, hh => by
    have hf := hC f (List.mem_cons_self ..)
    have hC' : COk O R C := fun f hf => hC f (List.mem_cons_of_mem _ hf)
    rw [upC_cons]
    intro g hg
    rcases List.mem_cons.1 hg with rfl | hg
    · exact ⟨hf.1.setmx (VOk.u hh hf.1 hf.2), hf.2⟩
    · unfold upT at hg
      split at hg
      · exact hC' g hg
      · exact COk.up hC' (VOk.so_ (VOk.f hh hf.1 hf.2)) g hg
theorem COk.upT {C : List (Fr K)} {h : Option (Value × K)} {f : Fr K} (hC : COk O R C) (hh : VOk O R h) (hn : NOk O R f.n) (ho : TOk O R f.o) : COk O R (Go.Proofs.YtlnihndjepjagaaGreat.upT O h f C) := by
  unfold Go.Proofs.YtlnihndjepjagaaGreat.upT
  split
  · exact hC
  · exact COk.up hC (VOk.so_ (VOk.f hh hn ho))
theorem ra_upT (h : Option (Value × K)) (f : Fr K) (C : List (Fr K)) (x : Nat) : ra x (upT O h f C) = ra x C := by
  unfold upT
  split
  · rfl
  · exact ra_upC O C _ _
theorem pa_upC (sb : Nat) (C : List (Fr K)) (h : Option (Value × K)) : pa sb (upC O h C) = pa sb C := by
  cases C with
  | nil => rw [upC_nil]
  | cons f C => rw [upC_cons]; rfl
theorem pa_upT (sb : Nat) (C : List (Fr K)) (h : Option (Value × K)) (f : Fr K) : pa sb (upT O h f C) = pa sb C := by
  unfold upT
  split
  · rfl
  · exact pa_upC sb C _
theorem COk.cons {f : Fr K} {C : List (Fr K)} (hn : NOk O R f.n) (ho : TOk O R f.o) (hC : COk O R C) : COk O R (f :: C) := fun g hg => by
  rcases List.mem_cons.1 hg with rfl | hg
  · exact ⟨hn, ho⟩
  · exact hC g hg
end


set_option maxHeartbeats 8000000 in
theorem itRepl (R : HP) (K : Type) (O : KO K) (tb sb : Nat) (cnt : Int) (sc : List Value) (x y : ND K) (xl xr yl yr yp : Nat) (C : List (Fr K)) (hC : COk O R C) (hy : NOk O R y) :
    Tri Tryz.prog 177 #[(vQ tb), (vQ x.a), (vQ y.a)] R [cl tb 185 [(vQ (ra x.a C)), (vI .i64 cnt), (vQ sb)], clf x.a 182 [x.b, x.e, x.v, x.mx, (vQ xl), (vQ xr), (vQ (pa sb C)), (vI .i64 x.c)], clf y.a 182 [y.b, y.e, y.v, y.mx, (vQ yl), (vQ yr), (vQ yp), (vI .i64 y.c)], cx sb x.a C, clf sb 182 sc] (fun v__ post__ => v__ = (vT #[]) ∧ post__ = [cl tb 185 [(vQ (ra y.a C)), (vI .i64 cnt), (vQ sb)], clf x.a 182 [x.b, x.e, x.v, x.mx, (vQ xl), (vQ xr), (vQ y.a), (vI .i64 x.c)], clf y.a 182 [y.b, y.e, y.v, y.mx, (vQ yl), (vQ yr), (vQ (pa sb C)), (vI .i64 y.c)], cx sb y.a (upC O (some (y.mx, y.km)) C), clf sb 182 sc]) := by
 refine Tri.into (n := 62) (al := [(vQ tb), (vQ x.a), (vQ y.a)]) func177 rfl ntmps177 rfl rfl fun w F H => ?_
 refine cR fun _ hK1_ => ?_
 rcases C with _ | ⟨⟨_ | _, f2_n, f2_o⟩, f2_C⟩
 ·skip
  have H3_ : Holds w (ro R :: cl tb 185 [(vQ x.a), (vI .i64 cnt), (vQ sb)] :: clf x.a 182 [x.b, x.e, x.v, x.mx, (vQ xl), (vQ xr), (vQ sb), (vI .i64 x.c)] :: clf y.a 182 [y.b, y.e, y.v, y.mx, (vQ yl), (vQ yr), (vQ yp), (vI .i64 y.c)] :: cx sb x.a ([] : List (Fr K)) :: clf sb 182 sc :: F) := (H)
  refine sm (vQ y.a) ?_
  refine sm (vQ x.a) ?_
  refine sv (v := (vQ x.a)) (by kernel_rfl) ?_
  refine sv (v := (vP (some ⟨x.a, 6, none⟩))) (by kernel_rfl) ?_
  refine sv (v := (vQ sb)) (x_load1 rfl underlying173 rfl ((Holds.rdf H3_ 2 rfl) 6 (vQ sb) rfl)) ?_
  refine sv (v := (vQ y.a)) (by kernel_rfl) ?_
  refine sv (v := (vP (some ⟨y.a, 6, none⟩))) (by kernel_rfl) ?_
  refine S_list0 (T_store1f (v := (vQ sb)) rfl rfl z173 rfl H3_ 3 rfl (Nat.le_of_ble_eq_true (by rfl)) ?_)
  intro w4_ S6_ H5_
  have S7_ := Same.trans (Same.refl w) S6_
  refine wn (hK1_ _ _ ?_)
  refine C_seq (fun _ hK8_ => ?_)
  refine C_seq (fun _ hK9_ => ?_)
  refine A_start (S := fun w => Rd tb [(vQ x.a), (vI .i64 cnt), (vQ sb)] w ∧ (Rd x.a [x.b, x.e, x.v, x.mx, (vQ xl), (vQ xr), (vQ sb), (vI .i64 x.c)] w ∧ Blk w x.a) ∧ Sub R (hp w)) (N := 9) foll rfl rfl ?_
  have H10_ := Holds.drew_ H5_
  have hq11_ := And.intro (Holds.rd H10_ 1 rfl) (And.intro ((And.intro (Holds.rdf H10_ 2 rfl) (Holds.blk H10_ 2 rfl))) ((Holds.ro_at H10_ 0 rfl)))
  refine A_tk 0 (v := (vQ x.a)) rfl (by kernel_rfl) (fun w hS => x_move rfl) hq11_ ?_
  refine A_tk 1 (v := (vQ x.a)) rfl (by kernel_rfl) (fun w hS => by kernel_rfl) hq11_ ?_
  refine A_tk 2 (v := (vP (some ⟨x.a, 6, none⟩))) rfl (by kernel_rfl) (fun w hS => by kernel_rfl) hq11_ ?_
  refine A_tk 3 (v := (vQ sb)) rfl (by kernel_rfl) (fun w hS => x_load1 rfl underlying173 rfl (hS.2.1.1 6 (vQ sb) rfl)) hq11_ ?_
  refine A_tk 4 (v := (vQ tb)) rfl (by kernel_rfl) (fun w hS => x_move rfl) hq11_ ?_
  refine A_tk 5 (v := (vQ tb)) rfl (by kernel_rfl) (fun w hS => by kernel_rfl) hq11_ ?_
  refine A_tk 6 (v := (vP (some ⟨tb, 2, none⟩))) rfl (by kernel_rfl) (fun w hS => by kernel_rfl) hq11_ ?_
  refine A_tk 7 (v := (vQ sb)) rfl (by kernel_rfl) (fun w hS => x_load1 rfl underlying173 rfl (hS.1 2 (vQ sb) rfl)) hq11_ ?_
  refine A_tk 8 (v := (vB true)) rfl (by kernel_rfl) (fun w hS => x_eqP rfl rfl underlying173 z182) hq11_ ?_
  refine A_done (by kernel_rfl) ?_
  refine (X_then (hK9_ _ _ ?_))
  refine C_condT rfl ?_
  refine C_reg ?_
  refine sm (vQ tb) ?_
  refine sm (vQ y.a) ?_
  refine sv (v := (vQ tb)) (by kernel_rfl) ?_
  refine sv (v := (vQ tb)) (by kernel_rfl) ?_
  refine S_list0 (T_store1 (v := (vQ y.a)) rfl rfl z173 rfl H10_ 1 rfl (Nat.le_of_ble_eq_true (by rfl)) ?_)
  intro w12_ S14_ H13_
  have S15_ := Same.trans (Same.trans S7_ (Same.drew _)) S14_
  refine wn (hK8_ _ _ ?_)
  refine C_reg ?_
  refine sm (vQ x.a) ?_
  refine sm (vQ y.a) ?_
  refine sv (v := (vQ x.a)) (by kernel_rfl) ?_
  refine sv (v := (vP (some ⟨x.a, 6, none⟩))) (by kernel_rfl) ?_
  refine S_list0 (T_store1f (v := (vQ y.a)) rfl rfl z173 rfl H13_ 2 rfl (Nat.le_of_ble_eq_true (by rfl)) ?_)
  intro w16_ S18_ H17_
  have S19_ := Same.trans S15_ S18_
  refine wpList_nil ?_
  refine R_0 rfl ?_
  have H20_ := H17_
  have H21_ := H20_
  have eH22_ : cx sb y.a (upC O (some (y.mx, y.km)) []) = cx sb y.a (upC O (some (y.mx, y.km)) ([] : List (Fr K))) := by first | rfl | (congr 1 <;> first | rfl | omega | (simp; done) | (simp; omega))
  have H22_ : Holds w16_ (ro R :: cl tb 185 [(vQ ((ra y.a ([] : List (Fr K))))), (vI .i64 cnt), (vQ sb)] :: clf x.a 182 [x.b, x.e, x.v, x.mx, (vQ xl), (vQ xr), (vQ y.a), (vI .i64 x.c)] :: clf y.a 182 [y.b, y.e, y.v, y.mx, (vQ yl), (vQ yr), (vQ ((pa sb ([] : List (Fr K))))), (vI .i64 y.c)] :: cx sb y.a (upC O (some (y.mx, y.km)) ([] : List (Fr K))) :: clf sb 182 sc :: F) := cast1 (P := fun c__ => Holds w16_ (ro R :: cl tb 185 [(vQ ((ra y.a ([] : List (Fr K))))), (vI .i64 cnt), (vQ sb)] :: clf x.a 182 [x.b, x.e, x.v, x.mx, (vQ xl), (vQ xr), (vQ y.a), (vI .i64 x.c)] :: clf y.a 182 [y.b, y.e, y.v, y.mx, (vQ yl), (vQ yr), (vQ ((pa sb ([] : List (Fr K))))), (vI .i64 y.c)] :: c__ :: clf sb 182 sc :: F)) eH22_ H21_
  exact ⟨_, _, rfl, ⟨rfl, rfl⟩, S19_, H22_⟩
 ·skip
  have H23_ : Holds w (ro R :: cl tb 185 [(vQ (ra f2_n.a f2_C)), (vI .i64 cnt), (vQ sb)] :: clf x.a 182 [x.b, x.e, x.v, x.mx, (vQ xl), (vQ xr), (vQ f2_n.a), (vI .i64 x.c)] :: clf y.a 182 [y.b, y.e, y.v, y.mx, (vQ yl), (vQ yr), (vQ yp), (vI .i64 y.c)] :: cx sb x.a ((⟨false, f2_n, f2_o⟩ : Fr K) :: f2_C) :: clf sb 182 sc :: F) := (H)
  have H24_ := ((Holds.bring H23_ 4 rfl) :)
  have H25_ := Holds.cx_cons H24_
  refine sm (vQ y.a) ?_
  refine sm (vQ x.a) ?_
  refine sv (v := (vQ x.a)) (by kernel_rfl) ?_
  refine sv (v := (vP (some ⟨x.a, 6, none⟩))) (by kernel_rfl) ?_
  refine sv (v := (vQ f2_n.a)) (x_load1 rfl underlying173 rfl ((Holds.rdf H25_ 5 rfl) 6 (vQ f2_n.a) rfl)) ?_
  refine sv (v := (vQ y.a)) (by kernel_rfl) ?_
  refine sv (v := (vP (some ⟨y.a, 6, none⟩))) (by kernel_rfl) ?_
  refine S_list0 (T_store1f (v := (vQ f2_n.a)) rfl rfl z173 rfl H25_ 6 rfl (Nat.le_of_ble_eq_true (by rfl)) ?_)
  intro w26_ S28_ H27_
  have S29_ := Same.trans (Same.refl w) S28_
  refine wn (hK1_ _ _ ?_)
  refine C_seq (fun _ hK30_ => ?_)
  refine C_seq (fun _ hK31_ => ?_)
  refine A_start (S := fun w => (Rd f2_n.a [f2_n.b, f2_n.e, f2_n.v, f2_n.mx, (vQ (rt sb f2_o)), (vQ x.a), (vQ (pa sb f2_C)), (vI .i64 f2_n.c)] w ∧ Blk w f2_n.a) ∧ RtRd w (rt sb f2_o) (rmx f2_o) ∧ Rd tb [(vQ (ra f2_n.a f2_C)), (vI .i64 cnt), (vQ sb)] w ∧ (Rd x.a [x.b, x.e, x.v, x.mx, (vQ xl), (vQ xr), (vQ f2_n.a), (vI .i64 x.c)] w ∧ Blk w x.a) ∧ Sub R (hp w)) (N := 9) foll rfl rfl ?_
  have H32_ := Holds.drew_ H27_
  have hq33_ := And.intro ((And.intro (Holds.rdf H32_ 0 rfl) (Holds.blk H32_ 0 rfl))) (And.intro (Holds.tr_rd H32_ 1 rfl 7 rfl) (And.intro (Holds.rd H32_ 4 rfl) (And.intro ((And.intro (Holds.rdf H32_ 5 rfl) (Holds.blk H32_ 5 rfl))) ((Holds.ro_at H32_ 3 rfl)))))
  refine A_tk 0 (v := (vQ x.a)) rfl (by kernel_rfl) (fun w hS => x_move rfl) hq33_ ?_
  refine A_tk 1 (v := (vQ x.a)) rfl (by kernel_rfl) (fun w hS => by kernel_rfl) hq33_ ?_
  refine A_tk 2 (v := (vP (some ⟨x.a, 6, none⟩))) rfl (by kernel_rfl) (fun w hS => by kernel_rfl) hq33_ ?_
  refine A_tk 3 (v := (vQ f2_n.a)) rfl (by kernel_rfl) (fun w hS => x_load1 rfl underlying173 rfl (hS.2.2.2.1.1 6 (vQ f2_n.a) rfl)) hq33_ ?_
  refine A_tk 4 (v := (vQ tb)) rfl (by kernel_rfl) (fun w hS => x_move rfl) hq33_ ?_
  refine A_tk 5 (v := (vQ tb)) rfl (by kernel_rfl) (fun w hS => by kernel_rfl) hq33_ ?_
  refine A_tk 6 (v := (vP (some ⟨tb, 2, none⟩))) rfl (by kernel_rfl) (fun w hS => by kernel_rfl) hq33_ ?_
  refine A_tk 7 (v := (vQ sb)) rfl (by kernel_rfl) (fun w hS => x_load1 rfl underlying173 rfl (hS.2.2.1 2 (vQ sb) rfl)) hq33_ ?_
  have hpc34_ : f2_n.a ≠ sb := Holds.ne_f H32_ 0 rfl 7 rfl (by decide)
  refine A_ready (i := 8) (rs := []) (by kernel_rfl) ?_
  refine AllR.cons ?_ AllR.nil
  refine A_op (ls' := #[true, true, true, true, true, true, true, true, true]) rfl (by kernel_rfl) (T_val (v := (vB false)) (x_cast (x_eqPN rfl rfl underlying173 z182 (by decide) (Holds.blk H32_ 0 rfl) (Holds.blk H32_ 7 rfl)) (congrArg vB (decide_eq_false hpc34_))) ?_)
  refine ⟨⟨(And.intro (Holds.rdf H32_ 0 rfl) (Holds.blk H32_ 0 rfl)), Holds.tr_rd H32_ 1 rfl 7 rfl, Holds.rd H32_ 4 rfl, (And.intro (Holds.rdf H32_ 5 rfl) (Holds.blk H32_ 5 rfl)), (Holds.ro_at H32_ 3 rfl)⟩, ?_⟩
  refine A_done (by kernel_rfl) ?_
  refine (X_then (hK31_ _ _ ?_))
  refine C_condF rfl ?_
  refine C_seq (fun _ hK35_ => ?_)
  refine cR fun _ hK36_ => ?_
  refine sm (vQ x.a) ?_
  refine sm (vQ x.a) ?_
  refine sv (v := (vQ x.a)) (by kernel_rfl) ?_
  refine sv (v := (vP (some ⟨x.a, 6, none⟩))) (by kernel_rfl) ?_
  refine sv (v := (vQ f2_n.a)) (x_load1 rfl underlying173 rfl ((Holds.rdf H32_ 5 rfl) 6 (vQ f2_n.a) rfl)) ?_
  refine sv (v := (vQ f2_n.a)) (by kernel_rfl) ?_
  refine sv (v := (vP (some ⟨f2_n.a, 4, none⟩))) (by kernel_rfl) ?_
  refine sv (v := (vQ (rt sb f2_o))) (x_load1 rfl underlying173 rfl ((Holds.rdf H32_ 0 rfl) 4 (vQ (rt sb f2_o)) rfl)) ?_
  have hpc38_ : x.a ≠ sb := Holds.ne_f H32_ 5 rfl 7 rfl (by decide)
  have hpc37_ : x.a ≠ (rt sb f2_o) := Holds.ne_tr H32_ 5 rfl 1 rfl (by decide) hpc38_
  refine sv (v := (vB false)) (x_cast (x_eqPN rfl rfl underlying173 z182 (by decide) (Holds.blk H32_ 5 rfl) (Holds.tr_rd H32_ 1 rfl 7 rfl).blk) (congrArg vB (decide_eq_false hpc37_))) ?_
  refine wn (hK36_ _ _ ?_)
  refine C_condF rfl ?_
  refine C_reg ?_
  refine sm (vQ x.a) ?_
  refine sv (v := (vQ x.a)) (by kernel_rfl) ?_
  refine sv (v := (vP (some ⟨x.a, 6, none⟩))) (by kernel_rfl) ?_
  refine sv (v := (vQ f2_n.a)) (x_load1 rfl underlying173 rfl ((Holds.rdf H32_ 5 rfl) 6 (vQ f2_n.a) rfl)) ?_
  refine sm (vQ y.a) ?_
  refine sv (v := (vQ f2_n.a)) (by kernel_rfl) ?_
  refine sv (v := (vP (some ⟨f2_n.a, 5, none⟩))) (by kernel_rfl) ?_
  refine S_list0 (T_store1f (v := (vQ y.a)) rfl rfl z173 rfl H32_ 0 rfl (Nat.le_of_ble_eq_true (by rfl)) ?_)
  intro w39_ S41_ H40_
  have S42_ := Same.trans (Same.trans S29_ (Same.drew _)) S41_
  refine wn (hK35_ _ _ ?_)
  refine A_start (S := fun w => Rd tb [(vQ (ra f2_n.a f2_C)), (vI .i64 cnt), (vQ sb)] w ∧ (Rd x.a [x.b, x.e, x.v, x.mx, (vQ xl), (vQ xr), (vQ f2_n.a), (vI .i64 x.c)] w ∧ Blk w x.a) ∧ (Rd y.a [y.b, y.e, y.v, y.mx, (vQ yl), (vQ yr), (vQ f2_n.a), (vI .i64 y.c)] w ∧ Blk w y.a) ∧ Sub R (hp w)) (N := 9) foll rfl rfl ?_
  have H43_ := Holds.drew_ H40_
  have hq44_ := And.intro (Holds.rd H43_ 4 rfl) (And.intro ((And.intro (Holds.rdf H43_ 5 rfl) (Holds.blk H43_ 5 rfl))) (And.intro ((And.intro (Holds.rdf H43_ 6 rfl) (Holds.blk H43_ 6 rfl))) ((Holds.ro_at H43_ 3 rfl))))
  refine A_tk 0 (v := (vQ x.a)) rfl (by kernel_rfl) (fun w hS => x_move rfl) hq44_ ?_
  refine A_tk 1 (v := (vQ x.a)) rfl (by kernel_rfl) (fun w hS => by kernel_rfl) hq44_ ?_
  refine A_tk 2 (v := (vP (some ⟨x.a, 6, none⟩))) rfl (by kernel_rfl) (fun w hS => by kernel_rfl) hq44_ ?_
  refine A_tk 3 (v := (vQ f2_n.a)) rfl (by kernel_rfl) (fun w hS => x_load1 rfl underlying173 rfl (hS.2.1.1 6 (vQ f2_n.a) rfl)) hq44_ ?_
  refine A_tk 4 (v := (vQ tb)) rfl (by kernel_rfl) (fun w hS => x_move rfl) hq44_ ?_
  refine A_tk 5 (v := (vQ tb)) rfl (by kernel_rfl) (fun w hS => by kernel_rfl) hq44_ ?_
  refine A_tk 6 (v := (vP (some ⟨tb, 2, none⟩))) rfl (by kernel_rfl) (fun w hS => by kernel_rfl) hq44_ ?_
  refine A_tk 7 (v := (vQ sb)) rfl (by kernel_rfl) (fun w hS => x_load1 rfl underlying173 rfl (hS.1 2 (vQ sb) rfl)) hq44_ ?_
  refine A_ready (i := 8) (rs := []) (by kernel_rfl) ?_
  refine AllR.cons ?_ AllR.nil
  have H45_ := Holds.cons_cx (f := (⟨false, f2_n, f2_o⟩ : Fr K)) (x := y.a) H43_
  have H46_ := H45_
  have H48_ := ((Holds.bring (Holds.bring (Holds.bring (Holds.bring H46_ 5 rfl) 1 rfl) 5 rfl) 3 rfl) :)
  refine A_op (ls' := #[true, true, true, true, true, true, true, true, true]) rfl (by kernel_rfl) (T_call (al := [(vP (some ⟨(pa sb ((⟨false, f2_n, f2_o⟩ : Fr K) :: f2_C)), 0, none⟩)), (vQ sb)]) (pre := [hol (some (y, yl, yr, f2_n.a)), cx sb (ha sb (some (y, yl, yr, f2_n.a))) ((⟨false, f2_n, f2_o⟩ : Fr K) :: f2_C), clf sb 182 sc]) rfl (lcons ((by first | rfl | omega | (simp; done) | (simp; omega)) : (vQ f2_n.a) = (vP (some ⟨(pa sb ((⟨false, f2_n, f2_o⟩ : Fr K) :: f2_C)), 0, none⟩))) rfl) cb152 (itUpMax R K O sb sc (some (y, yl, yr, f2_n.a)) ((⟨false, f2_n, f2_o⟩ : Fr K) :: f2_C) (hC) (fun z hz => by cases hz; exact hy.m)) H48_ ?_)
  rintro v47_ p52_ w49_ ⟨rfl, rfl⟩ S51_ H50_
  have S53_ := Same.trans (Same.trans S42_ (Same.drew _)) S51_
  have H54_ : Holds w49_ (ro R :: clf y.a 182 [y.b, y.e, y.v, y.mx, (vQ yl), (vQ yr), (vQ f2_n.a), (vI .i64 y.c)] :: cx sb y.a (upC O (some (y.mx, y.km)) ((⟨false, f2_n, f2_o⟩ : Fr K) :: f2_C)) :: clf sb 182 sc :: cl tb 185 [(vQ (ra f2_n.a f2_C)), (vI .i64 cnt), (vQ sb)] :: clf x.a 182 [x.b, x.e, x.v, x.mx, (vQ xl), (vQ xr), (vQ f2_n.a), (vI .i64 x.c)] :: F) := (H50_)
  refine ⟨⟨Holds.rd H54_ 4 rfl, (And.intro (Holds.rdf H54_ 5 rfl) (Holds.blk H54_ 5 rfl)), (And.intro (Holds.rdf H54_ 1 rfl) (Holds.blk H54_ 1 rfl)), (Holds.ro_at H54_ 0 rfl)⟩, ?_⟩
  refine A_done (by kernel_rfl) ?_
  refine (X_then (hK30_ _ _ ?_))
  refine C_reg ?_
  refine sm (vQ x.a) ?_
  refine sm (vQ y.a) ?_
  refine sv (v := (vQ x.a)) (by kernel_rfl) ?_
  refine sv (v := (vP (some ⟨x.a, 6, none⟩))) (by kernel_rfl) ?_
  refine S_list0 (T_store1f (v := (vQ y.a)) rfl rfl z173 rfl H54_ 5 rfl (Nat.le_of_ble_eq_true (by rfl)) ?_)
  intro w55_ S57_ H56_
  have S58_ := Same.trans S53_ S57_
  refine wpList_nil ?_
  refine R_0 rfl ?_
  have H59_ := Holds.recl H56_ 4 rfl ((lcons ((by first | rfl | omega | (simp; done) | (simp; omega)) : (vQ (ra f2_n.a f2_C)) = (vP (some ⟨(ra y.a ((⟨false, f2_n, f2_o⟩ : Fr K) :: f2_C)), 0, none⟩))) rfl) : [(vQ (ra f2_n.a f2_C)), (vI .i64 cnt), (vQ sb)] = [(vP (some ⟨(ra y.a ((⟨false, f2_n, f2_o⟩ : Fr K) :: f2_C)), 0, none⟩)), (vI .i64 cnt), (vQ sb)])
  have H60_ := H59_
  have H61_ := Holds.pkF H60_ [0, 3, 3, 0, 0, 0] 0
  exact ⟨_, _, rfl, ⟨rfl, rfl⟩, S58_, H61_⟩
 ·skip
  have H62_ : Holds w (ro R :: cl tb 185 [(vQ (ra f2_n.a f2_C)), (vI .i64 cnt), (vQ sb)] :: clf x.a 182 [x.b, x.e, x.v, x.mx, (vQ xl), (vQ xr), (vQ f2_n.a), (vI .i64 x.c)] :: clf y.a 182 [y.b, y.e, y.v, y.mx, (vQ yl), (vQ yr), (vQ yp), (vI .i64 y.c)] :: cx sb x.a ((⟨true, f2_n, f2_o⟩ : Fr K) :: f2_C) :: clf sb 182 sc :: F) := (H)
  have H63_ := ((Holds.bring H62_ 4 rfl) :)
  have H64_ := Holds.cx_cons H63_
  refine sm (vQ y.a) ?_
  refine sm (vQ x.a) ?_
  refine sv (v := (vQ x.a)) (by kernel_rfl) ?_
  refine sv (v := (vP (some ⟨x.a, 6, none⟩))) (by kernel_rfl) ?_
  refine sv (v := (vQ f2_n.a)) (x_load1 rfl underlying173 rfl ((Holds.rdf H64_ 5 rfl) 6 (vQ f2_n.a) rfl)) ?_
  refine sv (v := (vQ y.a)) (by kernel_rfl) ?_
  refine sv (v := (vP (some ⟨y.a, 6, none⟩))) (by kernel_rfl) ?_
  refine S_list0 (T_store1f (v := (vQ f2_n.a)) rfl rfl z173 rfl H64_ 6 rfl (Nat.le_of_ble_eq_true (by rfl)) ?_)
  intro w65_ S67_ H66_
  have S68_ := Same.trans (Same.refl w) S67_
  refine wn (hK1_ _ _ ?_)
  refine C_seq (fun _ hK69_ => ?_)
  refine C_seq (fun _ hK70_ => ?_)
  refine A_start (S := fun w => (Rd f2_n.a [f2_n.b, f2_n.e, f2_n.v, f2_n.mx, (vQ x.a), (vQ (rt sb f2_o)), (vQ (pa sb f2_C)), (vI .i64 f2_n.c)] w ∧ Blk w f2_n.a) ∧ RtRd w (rt sb f2_o) (rmx f2_o) ∧ Rd tb [(vQ (ra f2_n.a f2_C)), (vI .i64 cnt), (vQ sb)] w ∧ (Rd x.a [x.b, x.e, x.v, x.mx, (vQ xl), (vQ xr), (vQ f2_n.a), (vI .i64 x.c)] w ∧ Blk w x.a) ∧ Sub R (hp w)) (N := 9) foll rfl rfl ?_
  have H71_ := Holds.drew_ H66_
  have hq72_ := And.intro ((And.intro (Holds.rdf H71_ 0 rfl) (Holds.blk H71_ 0 rfl))) (And.intro (Holds.tr_rd H71_ 1 rfl 7 rfl) (And.intro (Holds.rd H71_ 4 rfl) (And.intro ((And.intro (Holds.rdf H71_ 5 rfl) (Holds.blk H71_ 5 rfl))) ((Holds.ro_at H71_ 3 rfl)))))
  refine A_tk 0 (v := (vQ x.a)) rfl (by kernel_rfl) (fun w hS => x_move rfl) hq72_ ?_
  refine A_tk 1 (v := (vQ x.a)) rfl (by kernel_rfl) (fun w hS => by kernel_rfl) hq72_ ?_
  refine A_tk 2 (v := (vP (some ⟨x.a, 6, none⟩))) rfl (by kernel_rfl) (fun w hS => by kernel_rfl) hq72_ ?_
  refine A_tk 3 (v := (vQ f2_n.a)) rfl (by kernel_rfl) (fun w hS => x_load1 rfl underlying173 rfl (hS.2.2.2.1.1 6 (vQ f2_n.a) rfl)) hq72_ ?_
  refine A_tk 4 (v := (vQ tb)) rfl (by kernel_rfl) (fun w hS => x_move rfl) hq72_ ?_
  refine A_tk 5 (v := (vQ tb)) rfl (by kernel_rfl) (fun w hS => by kernel_rfl) hq72_ ?_
  refine A_tk 6 (v := (vP (some ⟨tb, 2, none⟩))) rfl (by kernel_rfl) (fun w hS => by kernel_rfl) hq72_ ?_
  refine A_tk 7 (v := (vQ sb)) rfl (by kernel_rfl) (fun w hS => x_load1 rfl underlying173 rfl (hS.2.2.1 2 (vQ sb) rfl)) hq72_ ?_
  have hpc73_ : f2_n.a ≠ sb := Holds.ne_f H71_ 0 rfl 7 rfl (by decide)
  refine A_ready (i := 8) (rs := []) (by kernel_rfl) ?_
  refine AllR.cons ?_ AllR.nil
  refine A_op (ls' := #[true, true, true, true, true, true, true, true, true]) rfl (by kernel_rfl) (T_val (v := (vB false)) (x_cast (x_eqPN rfl rfl underlying173 z182 (by decide) (Holds.blk H71_ 0 rfl) (Holds.blk H71_ 7 rfl)) (congrArg vB (decide_eq_false hpc73_))) ?_)
  refine ⟨⟨(And.intro (Holds.rdf H71_ 0 rfl) (Holds.blk H71_ 0 rfl)), Holds.tr_rd H71_ 1 rfl 7 rfl, Holds.rd H71_ 4 rfl, (And.intro (Holds.rdf H71_ 5 rfl) (Holds.blk H71_ 5 rfl)), (Holds.ro_at H71_ 3 rfl)⟩, ?_⟩
  refine A_done (by kernel_rfl) ?_
  refine (X_then (hK70_ _ _ ?_))
  refine C_condF rfl ?_
  refine C_seq (fun _ hK74_ => ?_)
  refine cR fun _ hK75_ => ?_
  refine sm (vQ x.a) ?_
  refine sm (vQ x.a) ?_
  refine sv (v := (vQ x.a)) (by kernel_rfl) ?_
  refine sv (v := (vP (some ⟨x.a, 6, none⟩))) (by kernel_rfl) ?_
  refine sv (v := (vQ f2_n.a)) (x_load1 rfl underlying173 rfl ((Holds.rdf H71_ 5 rfl) 6 (vQ f2_n.a) rfl)) ?_
  refine sv (v := (vQ f2_n.a)) (by kernel_rfl) ?_
  refine sv (v := (vP (some ⟨f2_n.a, 4, none⟩))) (by kernel_rfl) ?_
  refine sv (v := (vQ x.a)) (x_load1 rfl underlying173 rfl ((Holds.rdf H71_ 0 rfl) 4 (vQ x.a) rfl)) ?_
  refine sv (v := (vB true)) (x_eqP rfl rfl underlying173 z182) ?_
  refine wn (hK75_ _ _ ?_)
  refine C_condT rfl ?_
  refine C_reg ?_
  refine sm (vQ x.a) ?_
  refine sv (v := (vQ x.a)) (by kernel_rfl) ?_
  refine sv (v := (vP (some ⟨x.a, 6, none⟩))) (by kernel_rfl) ?_
  refine sv (v := (vQ f2_n.a)) (x_load1 rfl underlying173 rfl ((Holds.rdf H71_ 5 rfl) 6 (vQ f2_n.a) rfl)) ?_
  refine sm (vQ y.a) ?_
  refine sv (v := (vQ f2_n.a)) (by kernel_rfl) ?_
  refine sv (v := (vP (some ⟨f2_n.a, 4, none⟩))) (by kernel_rfl) ?_
  refine S_list0 (T_store1f (v := (vQ y.a)) rfl rfl z173 rfl H71_ 0 rfl (Nat.le_of_ble_eq_true (by rfl)) ?_)
  intro w76_ S78_ H77_
  have S79_ := Same.trans (Same.trans S68_ (Same.drew _)) S78_
  refine wn (hK74_ _ _ ?_)
  refine A_start (S := fun w => Rd tb [(vQ (ra f2_n.a f2_C)), (vI .i64 cnt), (vQ sb)] w ∧ (Rd x.a [x.b, x.e, x.v, x.mx, (vQ xl), (vQ xr), (vQ f2_n.a), (vI .i64 x.c)] w ∧ Blk w x.a) ∧ (Rd y.a [y.b, y.e, y.v, y.mx, (vQ yl), (vQ yr), (vQ f2_n.a), (vI .i64 y.c)] w ∧ Blk w y.a) ∧ Sub R (hp w)) (N := 9) foll rfl rfl ?_
  have H80_ := Holds.drew_ H77_
  have hq81_ := And.intro (Holds.rd H80_ 4 rfl) (And.intro ((And.intro (Holds.rdf H80_ 5 rfl) (Holds.blk H80_ 5 rfl))) (And.intro ((And.intro (Holds.rdf H80_ 6 rfl) (Holds.blk H80_ 6 rfl))) ((Holds.ro_at H80_ 3 rfl))))
  refine A_tk 0 (v := (vQ x.a)) rfl (by kernel_rfl) (fun w hS => x_move rfl) hq81_ ?_
  refine A_tk 1 (v := (vQ x.a)) rfl (by kernel_rfl) (fun w hS => by kernel_rfl) hq81_ ?_
  refine A_tk 2 (v := (vP (some ⟨x.a, 6, none⟩))) rfl (by kernel_rfl) (fun w hS => by kernel_rfl) hq81_ ?_
  refine A_tk 3 (v := (vQ f2_n.a)) rfl (by kernel_rfl) (fun w hS => x_load1 rfl underlying173 rfl (hS.2.1.1 6 (vQ f2_n.a) rfl)) hq81_ ?_
  refine A_tk 4 (v := (vQ tb)) rfl (by kernel_rfl) (fun w hS => x_move rfl) hq81_ ?_
  refine A_tk 5 (v := (vQ tb)) rfl (by kernel_rfl) (fun w hS => by kernel_rfl) hq81_ ?_
  refine A_tk 6 (v := (vP (some ⟨tb, 2, none⟩))) rfl (by kernel_rfl) (fun w hS => by kernel_rfl) hq81_ ?_
  refine A_tk 7 (v := (vQ sb)) rfl (by kernel_rfl) (fun w hS => x_load1 rfl underlying173 rfl (hS.1 2 (vQ sb) rfl)) hq81_ ?_
  refine A_ready (i := 8) (rs := []) (by kernel_rfl) ?_
  refine AllR.cons ?_ AllR.nil
  have H82_ := Holds.cons_cx (f := (⟨true, f2_n, f2_o⟩ : Fr K)) (x := y.a) H80_
  have H83_ := H82_
  have H85_ := ((Holds.bring (Holds.bring (Holds.bring (Holds.bring H83_ 5 rfl) 1 rfl) 5 rfl) 3 rfl) :)
  refine A_op (ls' := #[true, true, true, true, true, true, true, true, true]) rfl (by kernel_rfl) (T_call (al := [(vP (some ⟨(pa sb ((⟨true, f2_n, f2_o⟩ : Fr K) :: f2_C)), 0, none⟩)), (vQ sb)]) (pre := [hol (some (y, yl, yr, f2_n.a)), cx sb (ha sb (some (y, yl, yr, f2_n.a))) ((⟨true, f2_n, f2_o⟩ : Fr K) :: f2_C), clf sb 182 sc]) rfl (lcons ((by first | rfl | omega | (simp; done) | (simp; omega)) : (vQ f2_n.a) = (vP (some ⟨(pa sb ((⟨true, f2_n, f2_o⟩ : Fr K) :: f2_C)), 0, none⟩))) rfl) cb152 (itUpMax R K O sb sc (some (y, yl, yr, f2_n.a)) ((⟨true, f2_n, f2_o⟩ : Fr K) :: f2_C) (hC) (fun z hz => by cases hz; exact hy.m)) H85_ ?_)
  rintro v84_ p89_ w86_ ⟨rfl, rfl⟩ S88_ H87_
  have S90_ := Same.trans (Same.trans S79_ (Same.drew _)) S88_
  have H91_ : Holds w86_ (ro R :: clf y.a 182 [y.b, y.e, y.v, y.mx, (vQ yl), (vQ yr), (vQ f2_n.a), (vI .i64 y.c)] :: cx sb y.a (upC O (some (y.mx, y.km)) ((⟨true, f2_n, f2_o⟩ : Fr K) :: f2_C)) :: clf sb 182 sc :: cl tb 185 [(vQ (ra f2_n.a f2_C)), (vI .i64 cnt), (vQ sb)] :: clf x.a 182 [x.b, x.e, x.v, x.mx, (vQ xl), (vQ xr), (vQ f2_n.a), (vI .i64 x.c)] :: F) := (H87_)
  refine ⟨⟨Holds.rd H91_ 4 rfl, (And.intro (Holds.rdf H91_ 5 rfl) (Holds.blk H91_ 5 rfl)), (And.intro (Holds.rdf H91_ 1 rfl) (Holds.blk H91_ 1 rfl)), (Holds.ro_at H91_ 0 rfl)⟩, ?_⟩
  refine A_done (by kernel_rfl) ?_
  refine (X_then (hK69_ _ _ ?_))
  refine C_reg ?_
  refine sm (vQ x.a) ?_
  refine sm (vQ y.a) ?_
  refine sv (v := (vQ x.a)) (by kernel_rfl) ?_
  refine sv (v := (vP (some ⟨x.a, 6, none⟩))) (by kernel_rfl) ?_
  refine S_list0 (T_store1f (v := (vQ y.a)) rfl rfl z173 rfl H91_ 5 rfl (Nat.le_of_ble_eq_true (by rfl)) ?_)
  intro w92_ S94_ H93_
  have S95_ := Same.trans S90_ S94_
  refine wpList_nil ?_
  refine R_0 rfl ?_
  have H96_ := Holds.recl H93_ 4 rfl ((lcons ((by first | rfl | omega | (simp; done) | (simp; omega)) : (vQ (ra f2_n.a f2_C)) = (vP (some ⟨(ra y.a ((⟨true, f2_n, f2_o⟩ : Fr K) :: f2_C)), 0, none⟩))) rfl) : [(vQ (ra f2_n.a f2_C)), (vI .i64 cnt), (vQ sb)] = [(vP (some ⟨(ra y.a ((⟨true, f2_n, f2_o⟩ : Fr K) :: f2_C)), 0, none⟩)), (vI .i64 cnt), (vQ sb)])
  have H97_ := H96_
  have H98_ := Holds.pkF H97_ [0, 3, 3, 0, 0, 0] 0
  exact ⟨_, _, rfl, ⟨rfl, rfl⟩, S95_, H98_⟩
end Go.Proofs.YtlnihndjepjagaaGreat
