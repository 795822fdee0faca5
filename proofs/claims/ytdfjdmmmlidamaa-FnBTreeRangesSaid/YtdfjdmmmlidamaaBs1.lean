/- Words, and proved steps, on which the proof leans. -/
import Derived.WalkKit
import Derived.WalkSpells
import Derived.WalkLawsBesides
import Derived.KernelRfl
import Derived.IntWalk
import Derived.LoopN
import Derived.OrdersHeld
import Derived.Deep.AppendSrc
import Derived.Lib.ConvBytes
import Derived.Recover
import Derived.Defers
import Derived.ProofKit
import Derived.SizedLaws
import Derived.Carry
import Derived.Laws.StructEq
import Derived.Laws.IdiomCopy
import Derived.Maps.Keyed
import Derived.MapKept
import Derived.Lib.Bytealg
import Derived.Lib.AppendZerosOnto
import Derived.Lib.Overlaps
import Derived.Maps.RangeRun
import Derived.Test.YtdfjdmmmlidamaaProg
namespace Go.Proofs.Ytdfjdmmmlidamaa.Gw
open Go Go.RowKit

theorem cast1 {α : Sort _} {P : α → Prop} {c c' : α} (h : c = c') (x : P c) : P c' := h ▸ x
/-! ### Pieces of a heap -/
abbrev HP := Nat → Option Obj
abbrev SP := HP → Prop
def Sub (h g : HP) : Prop := ∀ b o, h b = some o → g b = some o
def Dis (h g : HP) : Prop := ∀ b, h b = none ∨ g b = none
def un (h k : HP) : HP := fun b => match h b with | some o => some o | none => k b

theorem Sub.rfl' (h : HP) : Sub h h := fun _ _ e => e
theorem Sub.trans' {a b c : HP} (h : Sub a b) (k : Sub b c) : Sub a c := fun x o e => k x o (h x o e)
theorem Sub.un_left (h k : HP) : Sub h (un h k) := fun b o e => by simp [un, e]
theorem Sub.un_right {h k : HP} (d : Dis h k) : Sub k (un h k) := fun b o e => by
  rcases d b with d | d
  · simp [un, d, e]
  · rw [d] at e; cases e
theorem Sub.un_lub {h k g : HP} (a : Sub h g) (b : Sub k g) : Sub (un h k) g := fun x o e => by
  unfold un at e
  cases hx : h x with
  | none => rw [hx] at e; exact b x o e
  | some y => rw [hx] at e; cases e; exact a x _ hx
theorem Dis.symm {h k : HP} (d : Dis h k) : Dis k h := fun b => (d b).symm
theorem Dis.sub_left {h h' k : HP} (d : Dis h k) (s : Sub h' h) : Dis h' k := fun b => by
  rcases d b with e | e
  · left
    cases hx : h' b with
    | none => rfl
    | some o => rw [s b o hx] at e; cases e
  · exact .inr e
theorem Dis.sub_right {h k k' : HP} (d : Dis h k) (s : Sub k' k) : Dis h k' := (d.symm.sub_left s).symm
theorem Dis.un_left {h k g : HP} (a : Dis h g) (b : Dis k g) : Dis (un h k) g := fun x => by
  rcases a x with e | e
  · rcases b x with e' | e'
    · left; simp [un, e, e']
    · exact .inr e'
  · exact .inr e

def Sat : List SP → HP → Prop
  | [], _ => True
  | A :: l, g => ∃ h k, Sub h g ∧ Sub k g ∧ Dis h k ∧ A h ∧ Sat l k

theorem Sat.mono {l : List SP} {g g' : HP} (s : Sub g g') (h : Sat l g) : Sat l g' := by
  cases l with
  | nil => trivial
  | cons A l => obtain ⟨h, k, a, b, d, e, f⟩ := h; exact ⟨h, k, a.trans' s, b.trans' s, d, e, f⟩
theorem Sat.swap {A B : SP} {l : List SP} {g : HP} (h : Sat (A :: B :: l) g) : Sat (B :: A :: l) g := by
  obtain ⟨h1, k1, s1, t1, d1, a1, h2, k2, s2, t2, d2, a2, r⟩ := h
  refine ⟨h2, un h1 k2, s2.trans' t1, Sub.un_lub s1 (t2.trans' t1), ?_, a2, h1, k2, Sub.un_left _ _, Sub.un_right (d1.sub_right t2), d1.sub_right t2, a1, r⟩
  exact (Dis.un_left (d1.sub_right s2) d2.symm).symm
theorem Sat.tail {A : SP} {l : List SP} {g : HP} (h : Sat (A :: l) g) : Sat l g := by
  obtain ⟨_, k, _, t, _, _, r⟩ := h
  exact r.mono t
theorem Sat.cons_map {A : SP} {l l' : List SP} (f : ∀ g, Sat l g → Sat l' g) {g : HP} (h : Sat (A :: l) g) : Sat (A :: l') g := by
  obtain ⟨h1, k, s, t, d, a, r⟩ := h
  exact ⟨h1, k, s, t, d, a, f k r⟩
theorem Sat.head_map {A B : SP} {l : List SP} (f : ∀ h, A h → B h) {g : HP} (h : Sat (A :: l) g) : Sat (B :: l) g := by
  obtain ⟨h1, k, s, t, d, a, r⟩ := h
  exact ⟨h1, k, s, t, d, f _ a, r⟩
theorem Sat.bring {l : List SP} : ∀ (i : Nat) {A : SP} {g : HP}, l[i]? = some A → Sat l g → Sat (A :: l.eraseIdx i) g := by
  induction l with
  | nil => intro i A g hi; simp at hi
  | cons B l ih =>
    intro i A g hi h
    cases i with
    | zero => simp at hi; subst hi; exact h
    | succ i =>
      have hi' : l[i]? = some A := by simpa using hi
      exact Sat.swap (Sat.cons_map (fun g' h' => ih i hi' h') h)
theorem Sat.back {l : List SP} : ∀ (i : Nat) {A : SP} {g : HP}, l[i]? = some A → Sat (A :: l.eraseIdx i) g → Sat l g := by
  induction l with
  | nil => intro i A g hi; simp at hi
  | cons B l ih =>
    intro i A g hi h
    cases i with
    | zero => simp at hi; subst hi; exact h
    | succ i =>
      have hi' : l[i]? = some A := by simpa using hi
      exact Sat.cons_map (fun g' h' => ih i hi' h') (Sat.swap h)
theorem Sat.erase {l : List SP} (i : Nat) {g : HP} (h : Sat l g) : Sat (l.eraseIdx i) g := by
  rcases Nat.lt_or_ge i l.length with hi | hi
  · exact (Sat.bring i (List.getElem?_eq_getElem hi) h).tail
  · rw [List.eraseIdx_of_length_le hi]; exact h
theorem Sat.set {l : List SP} (i : Nat) {A B : SP} (hi : l[i]? = some A) {g g' : HP} (h : Sat l g)
    (f : ∀ h k, Sub h g → Sub k g → Dis h k → A h → ∃ h', Sub h' g' ∧ Sub k g' ∧ Dis h' k ∧ B h') : Sat (l.set i B) g' := by
  obtain ⟨h1, k, s, t, d, a, r⟩ := Sat.bring i hi h
  obtain ⟨h', s', t', d', b⟩ := f h1 k s t d a
  have hl : i < l.length := by
    rcases Nat.lt_or_ge i l.length with x | x
    · exact x
    · rw [List.getElem?_eq_none x] at hi; cases hi
  refine Sat.back i (A := B) (by simp [hl]) ?_
  have he : (l.set i B).eraseIdx i = l.eraseIdx i := by
    rw [List.eraseIdx_set_eq]
  rw [he]
  exact ⟨h', k, s', t', d', b, r⟩
theorem Sat.at {l : List SP} (i : Nat) {A : SP} (hi : l[i]? = some A) {g : HP} (h : Sat l g) : ∃ h', Sub h' g ∧ A h' := by
  obtain ⟨h1, _, s, _, _, a, _⟩ := Sat.bring i hi h
  exact ⟨h1, s, a⟩
theorem Sat.append {l m : List SP} {g : HP} : Sat (l ++ m) g ↔ ∃ h k, Sub h g ∧ Sub k g ∧ Dis h k ∧ Sat l h ∧ Sat m k := by
  induction l generalizing g with
  | nil =>
    constructor
    · intro h
      exact ⟨(fun _ => none), g, (fun _ _ e => by cases e), Sub.rfl' g, (fun _ => Or.inl rfl), trivial, h⟩
    · rintro ⟨_, k, _, t, _, _, h⟩
      exact h.mono t
  | cons A l ih =>
    constructor
    · rintro ⟨h1, k1, s, t, d, a, r⟩
      obtain ⟨h2, k2, s2, t2, d2, r1, r2⟩ := ih.1 r
      refine ⟨un h1 h2, k2, Sub.un_lub s (s2.trans' t), t2.trans' t, Dis.un_left (d.sub_right t2) d2, ?_, r2⟩
      exact ⟨h1, h2, Sub.un_left _ _, Sub.un_right (d.sub_right s2), d.sub_right s2, a, r1⟩
    · rintro ⟨h, k, s, t, d, ⟨h1, h2, s1, s2, d1, a, r1⟩, r2⟩
      refine ⟨h1, un h2 k, s1.trans' s, Sub.un_lub (s2.trans' s) t, ?_, a, ih.2 ⟨h2, k, Sub.un_left _ _, Sub.un_right (d.sub_left s2), d.sub_left s2, r1, r2⟩⟩
      exact (Dis.un_left d1.symm ((d.sub_left s1).symm)).symm

/-! ### Worlds -/
def hp (w : World) : HP := fun b => w.heap[b]?
def Holds (w : World) (l : List SP) : Prop := Sat l (hp w)
structure Same (w w' : World) : Prop where
  os : w'.os = w.os
  tape : w'.tape = w.tape
  output : w'.output = w.output
theorem Same.refl (w : World) : Same w w := ⟨rfl, rfl, rfl⟩
theorem Same.trans {a b c : World} (h : Same a b) (k : Same b c) : Same a c := ⟨k.os.trans h.os, k.tape.trans h.tape, k.output.trans h.output⟩
theorem Same.alloc (w : World) (o : Obj) : Same w (w.alloc o) := ⟨rfl, rfl, rfl⟩
theorem Same.setCell (w : World) (a : Addr) (v : Value) : Same w (w.setCell a v) := ⟨rfl, rfl, rfl⟩
theorem Same.drew (w : World) : Same w w.drew := ⟨rfl, rfl, rfl⟩

def cl (b : Nat) (T : TypeId) (cs : List Value) : SP := fun h => ∃ fr : Nat × Nat, h b = some (.cells cs.toArray T fr) ∧ ∀ i, i < cs.length → ¬ (fr.1 ≤ i ∧ i < fr.2)
def ob (b : Nat) (o : Obj) : SP := fun h => h b = some o
def ro (R : HP) : SP := fun h => Sub R h
theorem Holds.bring {w : World} {l : List SP} (h : Holds w l) (i : Nat) {A : SP} (hi : l[i]? = some A) : Holds w (A :: l.eraseIdx i) := Sat.bring i hi h
theorem Holds.erase {w : World} {l : List SP} (h : Holds w l) (i : Nat) : Holds w (l.eraseIdx i) := Sat.erase i h
theorem Holds.tail {w : World} {A : SP} {l : List SP} (h : Holds w (A :: l)) : Holds w l := Sat.tail h
theorem Holds.drew {w : World} {l : List SP} (h : Holds w l) : Holds w.drew l := h
theorem Holds.cl_block {w : World} {l : List SP} (h : Holds w l) (i : Nat) {b : Nat} {T : TypeId} {cs : List Value} (hi : l[i]? = some (cl b T cs)) :
    ∃ fr : Nat × Nat, w.heap[b]? = some (.cells cs.toArray T fr) ∧ ∀ i, i < cs.length → ¬ (fr.1 ≤ i ∧ i < fr.2) := by
  obtain ⟨h', s, fr, e, hf⟩ := Sat.at i hi h
  exact ⟨fr, s _ _ e, hf⟩
theorem Holds.cl_cell {w : World} {l : List SP} (h : Holds w l) (i : Nat) {b : Nat} {T : TypeId} {cs : List Value} (hi : l[i]? = some (cl b T cs)) {k : Nat} {v : Value}
    (hk : cs[k]? = some v) : w.cell? ⟨b, k, none⟩ = some v := by
  obtain ⟨fr, e, _⟩ := h.cl_block i hi
  rw [cell_of_row w b k _ T fr e]
  simpa using hk
theorem Holds.cl_frozen {w : World} {l : List SP} (h : Holds w l) (i : Nat) {b : Nat} {T : TypeId} {cs : List Value} (hi : l[i]? = some (cl b T cs)) {k : Nat} (hk : k < cs.length) :
    w.frozen? ⟨b, k, none⟩ = false := by
  obtain ⟨fr, e, hf⟩ := h.cl_block i hi
  simp only [World.frozen?, e]
  have := hf k hk
  simp only [Bool.and_eq_false_iff, decide_eq_false_iff_not]
  omega
theorem Holds.ro_sub {w : World} {l : List SP} (h : Holds w l) (i : Nat) {R : HP} (hi : l[i]? = some (ro R)) : Sub R (hp w) := by
  obtain ⟨h', s, e⟩ := Sat.at i hi h
  exact Sub.trans' e s
theorem Holds.ex {w : World} {α : Type} {A : α → SP} {l : List SP} (h : Holds w ((fun h => ∃ x, A x h) :: l)) : ∃ x, Holds w (A x :: l) := by
  obtain ⟨h1, k, s, t, d, ⟨x, a⟩, r⟩ := h
  exact ⟨x, h1, k, s, t, d, a, r⟩
def upb (g : HP) (b : Nat) (o : Obj) : HP := fun c => if c = b then some o else g c
theorem hp_setBlock (w w' : World) (b : Nat) (o : Obj) (hb : w'.heap[b]? = some o) (hc : ∀ c, c ≠ b → w'.heap[c]? = w.heap[c]?) : hp w' = upb (hp w) b o := by
  funext c
  by_cases h : c = b
  · subst h; simp [upb, hp, hb]
  · simp [upb, hp, h, hc c h]
theorem Sat.upb_at {l : List SP} (i : Nat) {A B : SP} (hi : l[i]? = some A) {g : HP} (h : Sat l g) {b : Nat} {o : Obj}
    (hA : ∀ h, A h → ∃ x, h b = some x) (hB : ∀ h, A h → B (upb h b o)) : Sat (l.set i B) (upb g b o) := by
  refine Sat.set i hi h fun h k s t d a => ⟨upb h b o, ?_, ?_, ?_, hB h a⟩
  · intro c x e
    unfold upb at e ⊢
    split
    · rename_i hc; rw [if_pos hc] at e; exact e
    · rename_i hc; rw [if_neg hc] at e; exact s c x e
  · intro c x e
    unfold upb
    split
    · rename_i hc
      subst hc
      obtain ⟨y, hy⟩ := hA h a
      rcases d c with z | z
      · rw [z] at hy; cases hy
      · rw [z] at e; cases e
    · exact t c x e
  · intro c
    unfold upb
    split
    · rename_i hc
      subst hc
      obtain ⟨y, hy⟩ := hA h a
      rcases d c with z | z
      · rw [z] at hy; cases hy
      · exact .inr z
    · exact d c
theorem Sat.upb_new {l : List SP} {g : HP} (h : Sat l g) {b : Nat} {o : Obj} (hb : g b = none) {B : SP} (hB : B (fun c => if c = b then some o else none)) : Sat (B :: l) (upb g b o) := by
  refine ⟨fun c => if c = b then some o else none, g, ?_, ?_, ?_, hB, h⟩
  · intro c x e
    unfold upb
    dsimp only at e
    split
    · rename_i hc; rw [if_pos hc] at e; exact e
    · rename_i hc; rw [if_neg hc] at e; cases e
  · intro c x e
    unfold upb
    split
    · rename_i hc; subst hc; rw [hb] at e; cases e
    · exact e
  · intro c
    by_cases hc : c = b
    · subst hc; exact .inr hb
    · simp [hc]

theorem Holds.setCell {w : World} {l : List SP} (h : Holds w l) (i : Nat) {b : Nat} {T : TypeId} {cs : List Value} (hi : l[i]? = some (cl b T cs)) (k : Nat) (v : Value) :
    Holds (w.setCell ⟨b, k, none⟩ v) (l.set i (cl b T (cs.set k v))) := by
  obtain ⟨fr, e, _⟩ := h.cl_block i hi
  have hw : hp (w.setCell ⟨b, k, none⟩ v) = upb (hp w) b (.cells (cs.set k v).toArray T fr) := by
    refine hp_setBlock _ _ _ _ ?_ (fun c hc => heap_setCell_other _ _ _ _ hc)
    simp only [World.setCell, Array.getElem?_modify, if_true, e, Option.map_some]
    simp
  unfold Holds
  rw [hw]
  obtain ⟨h0, s0, fr0, e0, hf0⟩ := Sat.at i hi h
  have efr : fr0 = fr := by
    have := s0 _ _ e0
    simp only [hp, e] at this
    injection this with this
    injection this with _ _ this
    exact this.symm
  refine Sat.upb_at i hi h (fun h ⟨fr', e', _⟩ => ⟨_, e'⟩) fun h ⟨fr', e', hf'⟩ => ⟨fr, by simp [upb], ?_⟩
  subst efr
  simpa using hf0
theorem Holds.alloc {w : World} {l : List SP} (h : Holds w l) (cs : Array Value) (T : TypeId) : Holds (w.alloc (.cells cs T)) (cl w.heap.size T cs.toList :: l) := by
  have hw : hp (w.alloc (.cells cs T)) = upb (hp w) w.heap.size (.cells cs T) :=
    hp_setBlock _ _ _ _ (heap_alloc_new w _) (fun c hc => by
      rcases Nat.lt_or_ge c w.heap.size with x | x
      · exact heap_alloc_old w _ x
      · have h1 : (w.alloc (.cells cs T)).heap.size ≤ c := by simp; omega
        rw [Array.getElem?_eq_none h1, Array.getElem?_eq_none x])
  unfold Holds
  rw [hw]
  exact Sat.upb_new h (by simp [hp]) ⟨(0, 0), by simp, by simp⟩
/-! ### Lending: a block becomes one that is only read, and is taken back -/
theorem Holds.lend {w : World} {l : List SP} {R : HP} {A : SP} (h : Holds w (ro R :: A :: l)) : ∃ h0 : HP, A h0 ∧ Dis R h0 ∧ Holds w (ro (un R h0) :: l) := by
  obtain ⟨h1, k1, s1, t1, d1, a1, h2, k2, s2, t2, d2, a2, r⟩ := h
  refine ⟨h2, a2, (d1.sub_left a1).sub_right s2, un h1 h2, k2, Sub.un_lub s1 (s2.trans' t1), t2.trans' t1, Dis.un_left (d1.sub_right t2) d2, ?_, r⟩
  exact Sub.un_lub (a1.trans' (Sub.un_left _ _)) (Sub.un_right (d1.sub_right s2))
theorem Holds.back {w : World} {l : List SP} {R h0 : HP} {A : SP} (hA : A h0) (hd : Dis R h0) (h : Holds w (ro (un R h0) :: l)) : Holds w (ro R :: A :: l) := by
  obtain ⟨h1, k1, s1, t1, d1, a1, r⟩ := h
  have sR : Sub R h1 := (Sub.un_left _ _).trans' a1
  have s0 : Sub h0 h1 := (Sub.un_right hd).trans' a1
  refine ⟨R, un h0 k1, sR.trans' s1, Sub.un_lub (s0.trans' s1) t1, ?_, Sub.rfl' R, h0, k1, Sub.un_left _ _, Sub.un_right (d1.sub_left s0), d1.sub_left s0, hA, r⟩
  exact (Dis.un_left hd.symm (d1.sub_left sR).symm).symm

/-! ### Calls -/
def Tri (P : Program) (f : FuncId) (args : Array Value) (R : HP) (pre : List SP) (Q : Value → List SP → Prop) : Prop :=
  ∀ (w : World) (F : List SP), Holds w (ro R :: (pre ++ F)) →
    Calls P f args w fun e w' => ∃ v post, e = .returned v ∧ Q v post ∧ Same w w' ∧ Holds w' (ro R :: (post ++ F))
theorem Tri.mono {P : Program} {f : FuncId} {args : Array Value} {R : HP} {pre : List SP} {Q Q' : Value → List SP → Prop} (h : Tri P f args R pre Q) (hq : ∀ v l, Q v l → Q' v l) :
    Tri P f args R pre Q' := fun w F hh => (h w F hh).mono fun _ _ ⟨v, post, e, q, s, k⟩ => ⟨v, post, e, hq _ _ q, s, k⟩

#print axioms Holds.back
end Go.Proofs.Ytdfjdmmmlidamaa.Gw
set_option linter.unusedVariables false
set_option linter.unusedSimpArgs false
namespace Go.Proofs.Ytdfjdmmmlidamaa.Gw
open Go Go.RowKit

abbrev Env := Nat → Value
def upd (e : Env) (d : Nat) (v : Value) : Env := fun t => bif Nat.beq t d then v else e t
def mkA (n : Nat) (e : Env) (ds : List Deferred) : Act := ⟨Array.ofFn (n := n) fun i => e i, ds⟩
def ev (n : Nat) (e : Env) : Operand → Value
  | .tmp t => bif Nat.blt t n then e t else undef
  | .const v => v
  | .global g => .pointer (some ⟨g, 0, none⟩)
  | .func f => .func (.func f) #[] #[]
theorem upd_same (e : Env) (d : Nat) (v : Value) : upd e d v d = v := by simp [upd]
theorem upd_ne (e : Env) {d t : Nat} (v : Value) (h : t ≠ d) : upd e d v t = e t := by
  simp only [upd]
  have : Nat.beq t d = false := by
    cases hb : Nat.beq t d with
    | false => rfl
    | true => exact absurd (Nat.eq_of_beq_eq_true hb) h
  rw [this]; rfl
theorem upd_id {e : Env} {d : Nat} {v : Value} (h : e d = v) : upd e d v = e := by
  funext t
  by_cases ht : t = d
  · subst ht; rw [upd_same, h]
  · rw [upd_ne e v ht]
theorem ch {E C : Env} {d : Nat} {v : Value} (h : E = C) (hv : E d = v) : E = upd C d v := by subst h; exact (upd_id hv).symm
theorem eval_mkA (n : Nat) (e : Env) (ds : List Deferred) : (mkA n e ds).eval = ev n e := by
  funext x
  cases x with
  | tmp t =>
    simp only [Act.eval, mkA, ev]
    by_cases h : t < n
    · have h' : Nat.blt t n = true := by simpa using h
      rw [h']
      simp [Array.getD, h]
    · have h' : Nat.blt t n = false := by
        cases hb : Nat.blt t n with
        | false => rfl
        | true => exact absurd (by simpa using hb) h
      rw [h']
      simp [Array.getD, h]
  | const v => rfl
  | global g => rfl
  | func f => rfl
theorem put_mkA (n : Nat) (e : Env) (ds : List Deferred) (d : Nat) (v : Value) : (mkA n e ds).put (some d) v = mkA n (upd e d v) ds := by
  simp only [Act.put, mkA]
  congr 1
  apply Array.ext
  · simp
  · intro i h1 h2
    simp only [Array.getElem_ofFn]
    by_cases h : d = i
    · subst h; rw [upd_same]; simp
    · rw [upd_ne _ _ (Ne.symm h), Array.getElem_setIfInBounds_ne (by simpa using h2) h, Array.getElem_ofFn]
theorem mkA_args (al : List Value) (n : Nat) (h : al.length ≤ n) :
    ({ tmps := al.toArray ++ Array.replicate (n - al.toArray.size) undef, defers := [] } : Act) = mkA n (fun t => al.getD t undef) [] := by
  unfold mkA
  congr 1
  apply Array.ext
  · simp; omega
  · intro i h1 h2
    simp only [Array.getElem_ofFn, List.getD]
    by_cases hi : i < al.length
    · rw [Array.getElem_append_left (by simpa using hi)]
      simp [hi]
    · rw [Array.getElem_append_right (by simpa using hi)]
      simp [hi]

/-! ### One operation -/
def Stp (P : Program) (n : Nat) (e : Env) (o : Oper) (w : World) (K : Value → World → Prop) : Prop :=
  (∃ v w', (execOp (ev n e) o).run P w = .ok (.value v) w' ∧ K v w') ∨
  (∃ w', (execOp (ev n e) o).run P w = .ok .skip w' ∧ K undef w') ∨
  (∃ f args w', (execOp (ev n e) o).run P w = .ok (.enter f args) w' ∧ Calls P f args w' fun r w'' => ∃ v, r = .returned v ∧ K v w'')
section
variable {P : Program} {n : Nat} {e : Env} {w : World} {K : Value → World → Prop} {Q : Exit → Act → World → Prop} {ops : Array Oper} {rest : List Oper} {ds : List Deferred}
  {d : Option Nat} {ty : TypeId} {pos : String} {af : Array Edge} {g : Option (Nat × Bool)}

theorem Stp.wp {o : Oper} {K' : Act → World → Prop} (h : Stp P n e o w fun v w' => K' ((mkA n e ds).put o.dst v) w') : o.wp P (mkA n e ds) w K' Q := by
  unfold Oper.wp
  rw [eval_mkA]
  rcases h with ⟨v, w', hr, hk⟩ | ⟨w', hr, hk⟩ | ⟨f, args, w', hr, hk⟩
  · rw [hr]; exact hk
  · rw [hr]; exact hk
  · rw [hr]
    show Calls P f args w' _
    exact hk.mono fun r w'' ⟨v, er, hv⟩ => by subst er; exact hv
theorem S_list {dd : Nat} {op : Op} (h : Stp P n e ⟨some dd, op, ty, pos, af, none⟩ w fun v w' => wpList P ops Q rest (mkA n (upd e dd v) ds) w') :
    wpList P ops Q (⟨some dd, op, ty, pos, af, none⟩ :: rest) (mkA n e ds) w :=
  wpList_plain rfl fun K' hK => Stp.wp (by
    refine Or.elim h (fun ⟨v, w', hr, hk⟩ => .inl ⟨v, w', hr, ?_⟩) fun h => h.elim (fun ⟨w', hr, hk⟩ => .inr (.inl ⟨w', hr, ?_⟩)) fun ⟨f, args, w', hr, hk⟩ => .inr (.inr ⟨f, args, w', hr, ?_⟩)
    · dsimp only; rw [put_mkA]; exact hK _ _ hk
    · dsimp only; rw [put_mkA]; exact hK _ _ hk
    · exact hk.mono fun r w'' ⟨v, er, hv⟩ => ⟨v, er, by dsimp only; rw [put_mkA]; exact hK _ _ hv⟩)
theorem S_list0 {op : Op} (h : Stp P n e ⟨none, op, ty, pos, af, none⟩ w fun _ w' => wpList P ops Q rest (mkA n e ds) w') :
    wpList P ops Q (⟨none, op, ty, pos, af, none⟩ :: rest) (mkA n e ds) w :=
  wpList_plain rfl fun K' hK => Stp.wp (by
    refine Or.elim h (fun ⟨v, w', hr, hk⟩ => .inl ⟨v, w', hr, hK _ _ hk⟩) fun h => h.elim (fun ⟨w', hr, hk⟩ => .inr (.inl ⟨w', hr, hK _ _ hk⟩)) fun ⟨f, args, w', hr, hk⟩ => .inr (.inr ⟨f, args, w', hr, ?_⟩)
    exact hk.mono fun r w'' ⟨v, er, hv⟩ => ⟨v, er, hK _ _ hv⟩)

theorem yielded_mkA {lo : List Oper} {j dj : Nat} {b : Bool} (hj : (lo[j]?).bind (·.dst) = some dj) (hn : Nat.blt dj n = true) (hb : e dj = .bool b) : yielded lo.toArray (mkA n e ds).tmps j = some b := by
  unfold yielded
  rw [List.getElem?_toArray, hj]
  have hn' : dj < n := by simpa using hn
  simp only [Option.bind_some, mkA]
  simp [hn', hb]
theorem S_yes {lo : List Oper} {dd j dj : Nat} {b : Bool} {op : Op} (hj : (lo[j]?).bind (·.dst) = some dj) (hn : Nat.blt dj n = true) (hb : e dj = .bool b)
    (h : Stp P n e ⟨some dd, op, ty, pos, af, some (j, b)⟩ w fun v w' => wpList P lo.toArray Q rest (mkA n (upd e dd v) ds) w') :
    wpList P lo.toArray Q (⟨some dd, op, ty, pos, af, some (j, b)⟩ :: rest) (mkA n e ds) w :=
  wpList_step fun K' hK => by
    rw [if_pos (by simp [Region.wanted, yielded_mkA (ds := ds) hj hn hb])]
    refine Stp.wp ?_
    refine Or.elim h (fun ⟨v, w', hr, hk⟩ => .inl ⟨v, w', hr, ?_⟩) fun h => h.elim (fun ⟨w', hr, hk⟩ => .inr (.inl ⟨w', hr, ?_⟩)) fun ⟨f, args, w', hr, hk⟩ => .inr (.inr ⟨f, args, w', hr, ?_⟩)
    · dsimp only; rw [put_mkA]; exact hK _ _ hk
    · dsimp only; rw [put_mkA]; exact hK _ _ hk
    · exact hk.mono fun r w'' ⟨v, er, hv⟩ => ⟨v, er, by dsimp only; rw [put_mkA]; exact hK _ _ hv⟩
theorem S_no {lo : List Oper} {dd j dj : Nat} {b c : Bool} {op : Op} (hj : (lo[j]?).bind (·.dst) = some dj) (hn : Nat.blt dj n = true) (hb : e dj = .bool b) (hc : b ≠ c)
    (h : wpList P lo.toArray Q rest (mkA n (upd e dd undef) ds) w) :
    wpList P lo.toArray Q (⟨some dd, op, ty, pos, af, some (j, c)⟩ :: rest) (mkA n e ds) w :=
  wpList_step fun K' hK => by
    rw [if_neg (by simp [Region.wanted, yielded_mkA (ds := ds) hj hn hb, hc])]
    dsimp only
    rw [put_mkA]
    exact hK _ _ h
/-! ### Values -/
def tin (P : Program) (t : TypeId) : Option (Nat × Nat × Option Value) := (P.info? t).map fun i => (i.size, i.bytes, i.zero)
theorem tin_info {t s b : Nat} {z : Option Value} (h : tin P t = some (s, b, z)) : ∃ i, P.info? t = some i ∧ i.size = s ∧ i.bytes = b ∧ i.zero = z := by
  unfold tin at h
  cases hi : P.info? t with
  | none => rw [hi] at h; cases h
  | some i => rw [hi] at h; simp at h; exact ⟨i, rfl, h.1, h.2.1, h.2.2⟩
theorem run_typeInfo {t : TypeId} {i : TypeInfo} (h : P.info? t = some i) : (typeInfo t).run P w = .ok i w := by
  simp [typeInfo, h]
theorem run_underlying {t : TypeId} {u : TypeDesc} (h : P.underlying t = some u) : (underlying t).run P w = .ok u w := by
  simp [underlying, h]
theorem run_sizeOf {t s b : Nat} {z : Option Value} (h : tin P t = some (s, b, z)) : (sizeOf t).run P w = .ok s w := by
  obtain ⟨i, hi, h1, _, _⟩ := tin_info h
  simp [sizeOf, run_typeInfo hi, h1]
theorem run_zeroValue {t s b : Nat} {z : Value} (h : tin P t = some (s, b, some z)) : (zeroValue t).run P w = .ok z w := by
  obtain ⟨i, hi, _, _, h3⟩ := tin_info h
  simp [zeroValue, run_typeInfo hi, h3]
def aggD : TypeDesc → Bool
  | .struct _ | .array _ _ => true
  | _ => false
theorem run_isAgg {t : TypeId} {u : TypeDesc} (h : P.underlying t = some u) : (isAgg t).run P w = .ok (aggD u) w := by
  simp only [isAgg, Sem.run_bind, run_underlying h, Result.andThen_ok]
  cases u <;> rfl

theorem T_val {o : Oper} {v : Value} (h : (execOp (ev n e) o).run P w = .ok (.value v) w) (k : K v w) : Stp P n e o w K := .inl ⟨v, w, h, k⟩
theorem sv {dd : Nat} {op : Op} {v : Value} (h : (execOp (ev n e) ⟨some dd, op, ty, pos, af, none⟩).run P w = .ok (.value v) w) (k : wpList P ops Q rest (mkA n (upd e dd v) ds) w) : wpList P ops Q (⟨some dd, op, ty, pos, af, none⟩ :: rest) (mkA n e ds) w := S_list (T_val h k)
theorem run_v (s : Sem Value) {v : Value} {w' : World} (h : s.run P w = .ok v w') : (do pure (Next.value (← s)) : Sem Next).run P w = .ok (.value v) w' := by
  simp [h]

theorem x_move {x : Operand} {v : Value} (h : ev n e x = v) : (execOp (ev n e) ⟨d, .move x, ty, pos, af, g⟩).run P w = .ok (.value v) w := by subst h; rfl
theorem x_assign {x : Operand} {v : Value} (h : ev n e x = v) : (execOp (ev n e) ⟨d, .assign x, ty, pos, af, g⟩).run P w = .ok (.value v) w := by subst h; rfl
theorem x_pick {c x y : Operand} {b : Bool} {v u : Value} (hc : ev n e c = .bool b) (hx : ev n e x = v) (hy : ev n e y = u) :
    (execOp (ev n e) ⟨d, .pick c x y, ty, pos, af, g⟩).run P w = .ok (.value (if b then v else u)) w := by
  subst hx; subst hy
  simp only [execOp, hc]
  simp [asBool]
theorem T_pickT {c x y : Operand} {v : Value} (hc : ev n e c = .bool true) (hx : ev n e x = v) (k : K v w) : Stp P n e ⟨d, .pick c x y, ty, pos, af, g⟩ w K :=
  T_val (by simpa using x_pick (P := P) (w := w) (d := d) (ty := ty) (pos := pos) (af := af) (g := g) hc hx (rfl : ev n e y = ev n e y)) k
theorem T_pickF {c x y : Operand} {v : Value} (hc : ev n e c = .bool false) (hy : ev n e y = v) (k : K v w) : Stp P n e ⟨d, .pick c x y, ty, pos, af, g⟩ w K :=
  T_val (by simpa using x_pick (P := P) (w := w) (d := d) (ty := ty) (pos := pos) (af := af) (g := g) hc (rfl : ev n e x = ev n e x) hy) k

def ibin (op : BinOp) (k : IntKind) (a b : Int) : Option Value :=
  match op with
  | .add => some (.int k (k.wrap (a + b)))
  | .sub => some (.int k (k.wrap (a - b)))
  | .mul => some (.int k (k.wrap (a * b)))
  | .quo => if b = 0 then none else some (.int k (k.wrap (a.tdiv b)))
  | .rem => if b = 0 then none else some (.int k (a.tmod b))
  | .and => some (.int k (k.wrap (BitVec.ofInt k.bits a &&& BitVec.ofInt k.bits b).toNat))
  | .or => some (.int k (k.wrap (BitVec.ofInt k.bits a ||| BitVec.ofInt k.bits b).toNat))
  | .xor => some (.int k (k.wrap (BitVec.ofInt k.bits a ^^^ BitVec.ofInt k.bits b).toNat))
  | .andNot => some (.int k (k.wrap (BitVec.ofInt k.bits a &&& ~~~BitVec.ofInt k.bits b).toNat))
  | .eql => some (.bool (decide (a = b)))
  | .neq => some (.bool (decide (a ≠ b)))
  | .lss => some (.bool (decide (a < b)))
  | .leq => some (.bool (decide (a ≤ b)))
  | .gtr => some (.bool (decide (b < a)))
  | .geq => some (.bool (decide (b ≤ a)))
  | _ => none
theorem run_eqGuard_int {op : BinOp} {t : TypeId} {x y : Operand} {k k' : IntKind} {a b : Int} : (eqGuard op t x y (.int k a) (.int k' b)).run P w = .ok () w := by
  unfold eqGuard
  cases op <;> rfl
theorem x_bin {op : BinOp} {t u : TypeId} {x y : Operand} {k : IntKind} {a b : Int} {v : Value} (hx : ev n e x = .int k a) (hy : ev n e y = .int k b) (hv : ibin op k a b = some v) :
    (execOp (ev n e) ⟨d, .binOp op t x y u, ty, pos, af, g⟩).run P w = .ok (.value v) w := by
  simp only [execOp]
  refine run_v _ ?_
  rw [hx, hy]
  simp only [Sem.run_bind, run_eqGuard_int, Result.andThen_ok]
  cases op <;> simp only [ibin, reduceCtorEq, Option.some.injEq] at hv <;>
    first
    | (subst hv; simp [binOp, Op.intArith, Op.intBits, Op.intCmp]; done)
    | (subst hv; simp only [binOp, Op.intCmp, ne_eq, not_true, if_false, Sem.run_pure]; by_cases h : a = b <;> simp [h]; done)
    | (split at hv
       · cases hv
       · rename_i hb; cases hv; simp [binOp, Op.intDiv, hb])
theorem ib_add {k : IntKind} {a b : Int} (h : k.wrap (a + b) = a + b) : ibin .add k a b = some (.int k (a + b)) := by simp [ibin, h]
theorem ib_sub {k : IntKind} {a b : Int} (h : k.wrap (a - b) = a - b) : ibin .sub k a b = some (.int k (a - b)) := by simp [ibin, h]
theorem ib_mul {k : IntKind} {a b : Int} (h : k.wrap (a * b) = a * b) : ibin .mul k a b = some (.int k (a * b)) := by simp [ibin, h]
theorem wrap_i64 {n : Int} (h1 : -9223372036854775808 ≤ n) (h2 : n ≤ 9223372036854775807) : IntKind.wrap .i64 n = n := by
  have e1 : (2 : Int) ^ 64 = 18446744073709551616 := by decide
  have e2 : (2 : Int) ^ (64 - 1) = 9223372036854775808 := by decide
  simp only [IntKind.wrap, IntKind.bits, IntKind.signed, e1, e2, Bool.true_and, decide_eq_true_eq]
  split <;> omega
end
theorem mkA_defers (n : Nat) (e : Env) (ds : List Deferred) : (mkA n e ds).defers = ds := rfl
attribute [irreducible] mkA
end Go.Proofs.Ytdfjdmmmlidamaa.Gw
set_option linter.unusedVariables false
set_option linter.unusedSimpArgs false
namespace Go.Proofs.Ytdfjdmmmlidamaa.Gw
open Go Go.RowKit
section
variable {P : Program} {n : Nat} {e : Env} {w : World} {K : Value → World → Prop} {Q : Exit → Act → World → Prop} {ops : Array Oper} {rest : List Oper} {ds : List Deferred}
  {d : Option Nat} {ty : TypeId} {pos : String} {af : Array Edge} {g : Option (Nat × Bool)} {l : List SP}

/-! ### Loads and stores -/
theorem add_mk (b o j : Nat) : (Addr.mk b o none).add j = ⟨b, o + j, none⟩ := by
  unfold Addr.add
  split
  · rename_i h; subst h; rfl
  · rfl
theorem run_loadAt1 {t : TypeId} {u : TypeDesc} {p : Addr} {v : Value} (hu : P.underlying t = some u) (hd : aggD u = false) (hc : w.cell? p = some v) :
    (Instr.loadAt t (.pointer (some p))).run P w = .ok v w := by
  simp only [Instr.loadAt, Instr.sureAddr, loadVar, Sem.run_bind, Sem.run_pure, Result.andThen_ok, run_isAgg hu, hd, Bool.false_eq_true, if_false, run_load, hc]
theorem run_loadAtN {t s b : Nat} {z : Option Value} {u : TypeDesc} {p : Addr} {vs : List Value} (hu : P.underlying t = some u) (hd : aggD u = true) (hz : tin P t = some (s, b, z)) (hl : vs.length = s)
    (hc : ∀ j v, vs[j]? = some v → w.cell? (p.add j) = some v) : (Instr.loadAt t (.pointer (some p))).run P w = .ok (.agg vs.toArray) w := by
  subst hl
  simp only [Instr.loadAt, Instr.sureAddr, loadVar, Sem.run_bind, Sem.run_pure, Result.andThen_ok, run_isAgg hu, hd, if_true, run_sizeOf hz, run_loadCells_list w p vs hc]
theorem Holds.cl_cells (h : Holds w l) (i : Nat) {b : Nat} {T : TypeId} {cs : List Value} (hi : l[i]? = some (cl b T cs)) (off : Nat) {vs : List Value} (hv : (cs.drop off).take vs.length = vs) :
    ∀ j v, vs[j]? = some v → w.cell? ((Addr.mk b off none).add j) = some v := by
  intro j v hj
  rw [add_mk]
  refine h.cl_cell i hi ?_
  rw [← hv] at hj
  rw [List.getElem?_take] at hj
  split at hj
  · rw [List.getElem?_drop] at hj; exact hj
  · cases hj
theorem run_storeAt1 {t s b : Nat} {z : Option Value} {p : Addr} {v u : Value} (hz : tin P t = some (1, b, z)) (hv : v.oneCell' = true) (hc : w.cell? p = some u) (hf : w.frozen? p = false) :
    (Instr.storeAt t (.pointer (some p)) v).run P w = .ok () (w.setCell p v) := by
  have hcs : v.cells = #[v] := by cases v <;> first | rfl | simp [Value.oneCell'] at hv
  have ha : p.add 0 = p := rfl
  simp only [Instr.storeAt, Instr.sureAddr, storeVar, Sem.run_bind, Sem.run_pure, Result.andThen_ok, run_sizeOf hz, hcs, storeCells, ha, run_store P w p v _ hv, hc, hf]
  simp [storeCells, run_store P w p v _ hv, hc, hf, ha]
def setCells (w : World) (b off : Nat) : List Value → World
  | [] => w
  | v :: r => setCells (w.setCell ⟨b, off, none⟩ v) b (off + 1) r
theorem Same.setCells (b : Nat) : ∀ (vs : List Value) (off : Nat) (w : World), Same w (setCells w b off vs)
  | [], _, w => Same.refl w
  | v :: r, off, w => (Same.setCell w _ v).trans (Same.setCells b r (off + 1) _)
theorem run_storeCells {b : Nat} : ∀ (vs : List Value) (off j : Nat) (w : World), (∀ v ∈ vs, v.oneCell' = true) →
    (∀ k, k < vs.length → ∃ u, w.cell? ⟨b, off + j + k, none⟩ = some u) → (∀ k, k < vs.length → w.frozen? ⟨b, off + j + k, none⟩ = false) →
    (storeCells ⟨b, off, none⟩ vs j).run P w = .ok () (setCells w b (off + j) vs)
  | [], off, j, w, _, _, _ => rfl
  | v :: r, off, j, w, h1, h2, h3 => by
    obtain ⟨u, hu⟩ := h2 0 (by simp)
    have hf := h3 0 (by simp)
    simp only [Nat.add_zero] at hu hf
    simp only [storeCells, Sem.run_bind, add_mk, run_store P w _ v _ (h1 v (by simp)), hu, hf]
    have ih := run_storeCells r off (j + 1) (w.setCell ⟨b, off + j, none⟩ v) (fun x hx => h1 x (by simp [hx]))
      (fun k hk => by
        obtain ⟨y, hy⟩ := h2 (k + 1) (by simp; omega)
        refine ⟨y, ?_⟩
        rw [World.cell?_setCell_other w _ _ v (by simp)]
        rw [show off + (j + 1) + k = off + j + (k + 1) by omega]; exact hy)
      (fun k hk => by
        have := h3 (k + 1) (by simp; omega)
        rw [World.frozen?_setCell]
        rw [show off + (j + 1) + k = off + j + (k + 1) by omega]; exact this)
    simp only [Bool.false_eq_true, if_false, Result.andThen_ok]
    rw [ih]
    rfl
theorem Holds.setCells (i : Nat) {b : Nat} {T : TypeId} : ∀ (vs : List Value) (off : Nat) (w : World) (l : List SP) (cs : List Value), Holds w l → l[i]? = some (cl b T cs) → off + vs.length ≤ cs.length →
    Holds (Gw.setCells w b off vs) (l.set i (cl b T (cs.take off ++ vs ++ cs.drop (off + vs.length))))
  | [], off, w, l, cs, h, hi, _ => by
    have : cs.take off ++ [] ++ cs.drop (off + 0) = cs := by simp
    simp only [List.length_nil]
    rw [this]
    have : l.set i (cl b T cs) = l := by
      obtain ⟨hl, he⟩ := List.getElem?_eq_some_iff.1 hi
      rw [← he]; simp
    rw [this]; exact h
  | v :: r, off, w, l, cs, h, hi, hlen => by
    have hl : i < l.length := (List.getElem?_eq_some_iff.1 hi).1
    have h1 := h.setCell i hi off v
    have h2 := Holds.setCells i (b := b) (T := T) r (off + 1) _ _ (cs.set off v) h1 (by simp [hl]) (by simp at hlen ⊢; omega)
    simp only [List.length_cons] at hlen ⊢
    rw [List.set_set] at h2
    have e : (cs.set off v).take (off + 1) ++ r ++ (cs.set off v).drop (off + 1 + r.length) = cs.take off ++ v :: r ++ cs.drop (off + (r.length + 1)) := by
      have e1 : (cs.set off v).take (off + 1) = cs.take off ++ [v] := by
        rw [List.take_succ_eq_append_getElem (by simp; omega)]
        simp [List.take_set_of_le]
      rw [e1, List.drop_set_of_lt (by omega)]
      simp [Nat.add_comm 1 r.length, Nat.add_assoc]
    rw [e] at h2
    exact h2
theorem T_store1 {t b bb T : Nat} {z : Option Value} {x y : Operand} {off : Nat} {v : Value} {cs : List Value} (hx : ev n e x = .pointer (some ⟨b, off, none⟩)) (hy : ev n e y = v) (hz : tin P t = some (1, bb, z))
    (hv : v.oneCell' = true) (h : Holds w l) (i : Nat) (hi : l[i]? = some (cl b T cs)) (hk : off < cs.length) (k : ∀ w', Same w w' → Holds w' (l.set i (cl b T (cs.set off v))) → K undef w') :
    Stp P n e ⟨d, .store t x y, ty, pos, af, g⟩ w K := by
  refine .inr (.inl ⟨w.setCell ⟨b, off, none⟩ v, ?_, k _ (Same.setCell w _ v) (h.setCell i hi off v)⟩)
  simp only [execOp]
  rw [hx, hy]
  simp only [Sem.run_bind, run_storeAt1 (s := 1) hz hv (h.cl_cell i hi (List.getElem?_eq_getElem hk)) (h.cl_frozen i hi hk), Result.andThen_ok, Sem.run_pure]
theorem T_storeN {t s b bb T : Nat} {z : Option Value} {x y : Operand} {off : Nat} {vs cs : List Value} (hx : ev n e x = .pointer (some ⟨b, off, none⟩)) (hy : ev n e y = .agg vs.toArray) (hz : tin P t = some (s, bb, z))
    (hs : vs.length = s) (hv : ∀ v ∈ vs, v.oneCell' = true) (h : Holds w l) (i : Nat) (hi : l[i]? = some (cl b T cs)) (hk : off + vs.length ≤ cs.length)
    (k : ∀ w', Same w w' → Holds w' (l.set i (cl b T (cs.take off ++ vs ++ cs.drop (off + vs.length)))) → K undef w') :
    Stp P n e ⟨d, .store t x y, ty, pos, af, g⟩ w K := by
  subst hs
  refine .inr (.inl ⟨setCells w b off vs, ?_, k _ (Same.setCells b vs off w) (Holds.setCells i vs off w l cs h hi hk)⟩)
  simp only [execOp]
  rw [hx, hy]
  have hc : (Value.agg vs.toArray).cells = vs.toArray := rfl
  have hr := run_storeCells (P := P) (b := b) vs off 0 w hv (fun k hk' => ⟨_, h.cl_cell i hi (List.getElem?_eq_getElem (by omega : off + 0 + k < cs.length))⟩) (fun k hk' => h.cl_frozen i hi (by omega))
  simp only [Nat.add_zero] at hr
  simp only [Sem.run_bind, Instr.storeAt, Instr.sureAddr, storeVar, Sem.run_pure, Result.andThen_ok, run_sizeOf hz, hc, List.size_toArray, ne_eq, not_true, if_false]
  simp [hr]

/-! ### New blocks -/
theorem T_new {o : Oper} {obj : Obj} {f : Nat → Value} (hr : (execOp (ev n e) o).run P w = .ok (.value (f w.heap.size)) (w.alloc obj)) {A : Nat → SP} (hA : ∀ l, Holds w l → Holds (w.alloc obj) (A w.heap.size :: l))
    (h : Holds w l) (k : ∀ b w', Same w w' → Holds w' (A b :: l) → K (f b) w') : Stp P n e o w K :=
  .inl ⟨_, _, hr, k _ _ (Same.alloc w obj) (hA l h)⟩
theorem T_box {t : Nat} {x : Operand} {v : Value} (hx : ev n e x = v) (h : Holds w l) (k : ∀ b w', Same w w' → Holds w' (cl b t v.cells.toList :: l) → K (.pointer (some ⟨b, 0, none⟩)) w') :
    Stp P n e ⟨d, .box t x, ty, pos, af, g⟩ w K := by
  refine T_new (obj := .cells v.cells t) (f := fun b => .pointer (some ⟨b, 0, none⟩)) ?_ (fun l h => h.alloc _ _) h k
  simp only [execOp]; rw [hx]; rfl
theorem T_alloc {t s b : Nat} {v : Value} (hz : tin P t = some (s, b, some v)) (h : Holds w l) (k : ∀ b w', Same w w' → Holds w' (cl b t v.cells.toList :: l) → K (.pointer (some ⟨b, 0, none⟩)) w') :
    Stp P n e ⟨d, .alloc t, ty, pos, af, g⟩ w K := by
  refine T_new (obj := .cells v.cells t) (f := fun b => .pointer (some ⟨b, 0, none⟩)) ?_ (fun l h => h.alloc _ _) h k
  simp only [execOp, Instr.alloc]
  refine run_v _ ?_
  simp only [Sem.run_bind, run_zeroValue hz, Result.andThen_ok]
  rfl

/-! ### Places -/
theorem run_part1 {t : TypeId} {u : TypeDesc} {cs : Array Value} {off : Nat} {v : Value} (hu : P.underlying t = some u) (hd : aggD u = false) (hv : cs[off]? = some v) : (part t cs off).run P w = .ok v w := by
  simp [part, run_isAgg hu, hd, hv]
theorem run_slice_slice {t el : TypeId} {a : Option Addr} {len cap sz bb : Nat} {z : Option Value} {lo hi : Option Value} {l h : Nat} (hu : P.underlying t = some (.slice el)) (hz : tin P el = some (sz, bb, z))
    (hb : (Instr.sliceBounds true len cap lo hi none).run P w = .ok (l, h, cap) w) :
    (Instr.sliceAt t (.slice a len cap) lo hi none).run P w = .ok (.slice (if cap = l then a else a.map (·.add (l * sz))) (h - l) (cap - l)) w := by
  simp [Instr.sliceAt, run_underlying hu, Instr.slice, hb, run_sizeOf hz]
theorem run_bounds {isS : Bool} {len cap : Nat} {lo hi : Option Value} {l h : Nat} (hh : (match hi with | none => h = len | some v => ∃ k i, v = .int k i ∧ 0 ≤ i ∧ i ≤ cap ∧ i.toNat = h))
    (hl : (match lo with | none => l = 0 | some v => ∃ k i, v = .int k i ∧ 0 ≤ i ∧ i ≤ h ∧ i.toNat = l)) : (Instr.sliceBounds isS len cap lo hi none).run P w = .ok (l, h, cap) w := by
  unfold Instr.sliceBounds
  cases hi with
  | none =>
    dsimp only at hh; subst hh
    cases lo with
    | none => dsimp only at hl; subst hl; rfl
    | some v =>
      obtain ⟨k, i, rfl, h0, h1, rfl⟩ := hl
      simp [Instr.sliceBound, asIntOf, h0, h1]
  | some u =>
    obtain ⟨k', i', rfl, h0', h1', rfl⟩ := hh
    cases lo with
    | none => dsimp only at hl; subst hl; simp [Instr.sliceBound, asIntOf, h0', h1']
    | some v =>
      obtain ⟨k, i, rfl, h0, h1, rfl⟩ := hl
      have h2 : i ≤ max i' 0 := by omega
      simp [Instr.sliceBound, asIntOf, h0, h0', h1', h2]
theorem zeros_eq (zc : Array Value) (c : Nat) : ((Array.range (c * zc.size)).map (zc[· % zc.size]!)).toList = (List.replicate c zc.toList).flatten := by
  simp only [Array.toList_map, Array.toList_range]
  induction c with
  | zero => simp
  | succ c ih =>
    rw [Nat.add_mul, Nat.one_mul, List.range_add, List.map_append, ih, List.replicate_succ', List.flatten_append]
    congr 1
    simp only [List.map_map, List.flatten_cons, List.flatten_nil, List.append_nil]
    apply List.ext_getElem
    · simp
    · intro i h1 h2
      simp only [List.length_map, List.length_range] at h1
      simp [Nat.add_mod, Nat.mod_eq_of_lt h1, h1]
theorem T_makeSlice {t el : TypeId} {x y : Operand} {len cap sz bb : Nat} {z : Value} {k1 k2 : IntKind} {il ic : Int} (hx : ev n e x = .int k1 il) (hy : ev n e y = .int k2 ic) (hu : P.underlying t = some (.slice el))
    (hz : tin P el = some (sz, bb, some z)) (hzs : z.cells.size = sz) (hil : il = len) (hic : ic = cap) (hle : len ≤ cap) (hb : bb * cap ≤ 2 ^ 48) (hc : cap ≤ 2 ^ 48) (h : Holds w l)
    (k : ∀ b w', Same w w' → Holds w' (cl b el ((List.replicate cap z.cells.toList).flatten) :: l) → K (.slice (some ⟨b, 0, none⟩) len cap) w') : Stp P n e ⟨d, .makeSlice t x y, ty, pos, af, g⟩ w K := by
  subst hil; subst hic
  have hcells : ((Array.range (cap * sz)).map (z.cells[· % z.cells.size]!)).toList = (List.replicate cap z.cells.toList).flatten := by
    subst hzs
    exact zeros_eq z.cells cap
  refine T_new (obj := .cells ((Array.range (cap * sz)).map (z.cells[· % z.cells.size]!)) el) (f := fun b => .slice (some ⟨b, 0, none⟩) len cap) (A := fun b => cl b el ((List.replicate cap z.cells.toList).flatten)) ?_
    (fun l h => by have := h.alloc ((Array.range (cap * sz)).map (z.cells[· % z.cells.size]!)) el; rw [hcells] at this; exact this) h k
  simp only [execOp]
  rw [hx, hy]
  refine run_v _ ?_
  obtain ⟨i, hi, h1, h2, h3⟩ := tin_info hz
  subst h2
  have w1 : IntKind.i64.wrap (len : Int) = len := IntWalk.i64_in _ (by omega)
  have w2 : IntKind.i64.wrap (cap : Int) = cap := IntWalk.i64_in _ (by omega)
  have c1 : ¬ ((i.bytes : Int) * cap > 2 ^ 48) := by
    have : ((i.bytes * cap : Nat) : Int) ≤ ((2 ^ 48 : Nat) : Int) := Int.ofNat_le.2 hb
    simpa using this
  have c2 : ¬ ((cap : Int) < 0) := by omega
  have c3 : ¬ ((len : Int) < 0) := by omega
  have c4 : ¬ ((len : Int) > cap) := by omega
  simp only [Instr.makeSlice, Sem.run_bind, run_underlying hu, Result.andThen_ok, asInt, asIntOf, Sem.run_pure, run_typeInfo hi, w1, w2, c1, c2, c3, c4, decide_false, Bool.or_false, Bool.false_eq_true, if_false,
    run_askRoom, run_sizeOf hz]
  simp only [Int.toNat_natCast]
  by_cases h0 : cap * sz = 0
  · have e0 : ∀ f : Nat → Value, (Array.range 0).map f = #[] := fun f => by simp
    simp [h0, newRow, e0]
  · simp [h0, run_zeroValue hz, newRow]
theorem T_makeSlice1 {t el : TypeId} {x y : Operand} {len cap bb : Nat} {z : Value} {k1 k2 : IntKind} {il ic : Int} (hx : ev n e x = .int k1 il) (hy : ev n e y = .int k2 ic) (hu : P.underlying t = some (.slice el))
    (hz : tin P el = some (1, bb, some z)) (hv : z.oneCell' = true) (hil : il = len) (hic : ic = cap) (hle : len ≤ cap) (hb : bb * cap ≤ 2 ^ 48) (hc : cap ≤ 2 ^ 48) (h : Holds w l)
    (k : ∀ b w', Same w w' → Holds w' (cl b el (List.replicate cap z) :: l) → K (.slice (some ⟨b, 0, none⟩) len cap) w') : Stp P n e ⟨d, .makeSlice t x y, ty, pos, af, g⟩ w K := by
  have hcs : z.cells = #[z] := by cases z <;> first | rfl | simp [Value.oneCell'] at hv
  refine T_makeSlice hx hy hu hz (by rw [hcs]; rfl) hil hic hle hb hc h ?_
  have e1 : (List.replicate cap z.cells.toList).flatten = List.replicate cap z := by
    rw [hcs]
    induction cap with
    | zero => rfl
    | succ c ih => simp [List.replicate_succ] at ih ⊢
  rw [e1]
  exact k
end
end Go.Proofs.Ytdfjdmmmlidamaa.Gw
set_option linter.unusedVariables false
set_option linter.unusedSimpArgs false
namespace Go.Proofs.Ytdfjdmmmlidamaa.Gw
open Go Go.RowKit
section
variable {P : Program} {n : Nat} {e : Env} {w : World} {K : Value → World → Prop} {Q : Exit → Act → World → Prop} {ops : Array Oper} {rest : List Oper} {ds : List Deferred}
  {d : Option Nat} {ty : TypeId} {pos : String} {af : Array Edge} {g : Option (Nat × Bool)} {l : List SP}

/-! ### Code -/
theorem C_reg {id : Nat} {lo : List Oper} (h : wpList P lo.toArray Q lo (mkA n e ds) w) : (Code.region id lo.toArray false).wp P Q (mkA n e ds) w := wp_region_lit h
theorem C_seq {x y : Code} (h : ∀ K : Act → World → Prop, (∀ a w, y.wp P Q a w → K a w) → x.wp P (Exit.then K Q) (mkA n e ds) w) : (Code.seq x y).wp P Q (mkA n e ds) w := wp_seq (h _ fun _ _ h => h)
theorem C_block {id : Nat} {c : Code} (h : c.wp P (Exit.inBlock id Q) (mkA n e ds) w) : (Code.block id c).wp P Q (mkA n e ds) w := wp_block h
theorem C_skip (h : Q .normal (mkA n e ds) w) : Code.skip.wp P Q (mkA n e ds) w := wp_skip h
theorem C_exit {id : Nat} (h : Q (.exit id) (mkA n e ds) w) : (Code.exit id).wp P Q (mkA n e ds) w := wp_exit h
theorem C_ret (h : Q .ret (mkA n e ds) w) : Code.ret.wp P Q (mkA n e ds) w := wp_ret h
theorem C_cond {c : Operand} {x y : Code} {b : Bool} (hc : ev n e c = .bool b) (h1 : b = true → x.wp P Q (mkA n e ds) w) (h2 : b = false → y.wp P Q (mkA n e ds) w) : (Code.cond c x y).wp P Q (mkA n e ds) w :=
  wp_cond_split (t := b) (by rw [eval_mkA]; exact hc) h1 h2
theorem C_condT {c : Operand} {x y : Code} (hc : ev n e c = .bool true) (h1 : x.wp P Q (mkA n e ds) w) : (Code.cond c x y).wp P Q (mkA n e ds) w := C_cond hc (fun _ => h1) (fun h => by cases h)
theorem C_condF {c : Operand} {x y : Code} (hc : ev n e c = .bool false) (h1 : y.wp P Q (mkA n e ds) w) : (Code.cond c x y).wp P Q (mkA n e ds) w := C_cond hc (fun h => by cases h) (fun _ => h1)
theorem C_cut {x y : Code} (J : Act → World → Prop) (h : x.wp P (Exit.then J Q) (mkA n e ds) w) (k : ∀ a w', J a w' → y.wp P Q a w') : (Code.seq x y).wp P Q (mkA n e ds) w :=
  wp_seq (wp_mono h fun ex a w' hq => by cases ex <;> first | exact k _ _ hq | exact hq)
theorem X_then {J : Act → World → Prop} {a : Act} (h : J a w) : Exit.then J Q .normal a w := h
theorem X_thenX {J : Act → World → Prop} {a : Act} {i : Nat} (h : Q (.exit i) a w) : Exit.then J Q (.exit i) a w := h
theorem X_thenR {J : Act → World → Prop} {a : Act} (h : Q .ret a w) : Exit.then J Q .ret a w := h
theorem X_blkN {a : Act} {id : Nat} (h : Q .normal a w) : Exit.inBlock id Q .normal a w := h
theorem X_blkR {a : Act} {id : Nat} (h : Q .ret a w) : Exit.inBlock id Q .ret a w := h
theorem X_blkHit {a : Act} {id : Nat} (h : Q .normal a w) : Exit.inBlock id Q (.exit id) a w := by simp only [Exit.inBlock, if_true]; exact h
theorem C_loop {γ : Type} {c : Code} (I : γ → Act → World → Prop) (μ : γ → Nat) (x0 : γ) (h0 : I x0 (mkA n e ds) w)
    (round : ∀ x a w, I x a w → c.wp P (Exit.then (fun a' w' => ∃ x', I x' a' w' ∧ μ x' < μ x) Q) a w) : (Code.loop c).wp P Q (mkA n e ds) w := by
  have key : ∀ (m : Nat) (x : γ) (a : Act) (w : World), μ x = m → I x a w → ∀ (b : Frame) (k : List Item) (cs : List Frame),
      ∃ ex a' w', Q ex a' w' ∧ Arrives P (lone (b.at a (.code c :: .inLoop c :: k)) cs w) b k cs ex a' w' := by
    intro m
    induction m using Nat.strongRecOn with
    | _ m ih =>
      intro x a w hm hI b k cs
      obtain ⟨ex, a₁, w₁, hq, harr⟩ := round x a w hI b (.inLoop c :: k) cs
      cases ex with
      | normal =>
        obtain ⟨x', hI₁, hlt⟩ := hq
        obtain ⟨e₂, a₂, w₂, hq₂, harr₂⟩ := ih (μ x') (hm ▸ hlt) x' a₁ w₁ rfl hI₁ b k cs
        exact ⟨e₂, a₂, w₂, hq₂, .of_steps (Steps.trans harr (.one step_inLoop)) harr₂⟩
      | exit id => exact ⟨_, a₁, w₁, hq, .pass (x := .inLoop c) rfl (fun _ _ => .inl (by simp)) harr⟩
      | goto l => exact ⟨_, a₁, w₁, hq, .pass (x := .inLoop c) rfl (fun _ _ => .inl (by simp)) harr⟩
      | ret => exact ⟨_, a₁, w₁, hq, .pass (x := .inLoop c) rfl (fun _ _ => .inl (by simp)) harr⟩
      | panic ch => exact ⟨_, a₁, w₁, hq, .pass (x := .inLoop c) rfl (fun _ _ => .inl (by simp)) harr⟩
      | outgrown => exact ⟨_, a₁, w₁, hq, .pass (x := .inLoop c) rfl (fun _ _ => .inl (by simp)) harr⟩
  intro b k cs
  obtain ⟨ex, a', w', hq, harr⟩ := key _ x0 _ w rfl h0 b k cs
  exact ⟨ex, a', w', hq, .of_steps (.one step_loop) harr⟩

theorem C_loopN {c : Code} (m : Nat) (h : Code.rounds P c Q m (mkA n e ds) w) : (Code.loop c).wp P Q (mkA n e ds) w := wp_loop_rounds m h
theorem C_rounds {c : Code} {m : Nat} (h : ∀ K : Act → World → Prop, (∀ a w, Code.rounds P c Q m a w → K a w) → c.wp P (Exit.then K Q) (mkA n e ds) w) : Code.rounds P c Q (m + 1) (mkA n e ds) w := h _ fun _ _ h => h

/-! ### Calls -/
def callable (P : Program) (f : FuncId) : Bool := match P.funcs[f]? with
  | some fn => fn.body.isSome && fn.name != "runtime.NumGoroutine"
  | none => false
theorem run_callFunc {f : FuncId} {args : Array Value} (h : callable P f = true) : (callFunc f args).run P w = .ok (.enter f args) w := by
  unfold callable at h
  split at h
  · rename_i fn hf
    simp only [Bool.and_eq_true, bne_iff_ne, ne_eq] at h
    obtain ⟨h1, h2⟩ := h
    have h3 : ¬ fn.body = none := fun hb => by rw [hb] at h1; cases h1
    simp [callFunc, hf, h3, h2]
  · cases h
theorem T_callW {f : FuncId} {x : Operand} {lo : List Operand} {cl al : List Value} {at_ : Array TypeId} (hx : ev n e x = .func (.func f) #[] cl.toArray) (ha : lo.map (ev n e) ++ cl = al)
    (hc : callable P f = true) (h : Calls P f al.toArray w fun r w' => ∃ v, r = .returned v ∧ K v w') : Stp P n e ⟨d, .call { callee := .value x, args := lo.toArray, argTypes := at_ }, ty, pos, af, g⟩ w K := by
  subst ha
  refine .inr (.inr ⟨f, _, w, ?_, h⟩)
  simp only [execOp, resolve, hx, Deferred.ofValue, Sem.run_bind, Sem.run_pure, Result.andThen_ok, invoke]
  simp [run_callFunc hc]
theorem T_call {f : FuncId} {x : Operand} {lo : List Operand} {cl al : List Value} {at_ : Array TypeId} {R : HP} {pre F : List SP} {Qc : Value → List SP → Prop}
    (hx : ev n e x = .func (.func f) #[] cl.toArray) (ha : lo.map (ev n e) ++ cl = al) (hc : callable P f = true) (ht : Tri P f al.toArray R pre Qc) (h : Holds w (ro R :: (pre ++ F)))
    (k : ∀ v post w', Qc v post → Same w w' → Holds w' (ro R :: (post ++ F)) → K v w') : Stp P n e ⟨d, .call { callee := .value x, args := lo.toArray, argTypes := at_ }, ty, pos, af, g⟩ w K :=
  T_callW hx ha hc ((ht w F h).mono fun r w' ⟨v, post, er, q, s, hh⟩ => ⟨v, er, k v post w' q s hh⟩)
theorem Calls.into {f : FuncId} {fn : Func} {c : Code} {args : Array Value} {al : List Value} {R : Ending → World → Prop} (hf : P.funcs[f]? = some fn) (hb : fn.body = some c) (hn : fn.ntmps = n) (ha : args = al.toArray)
    (hl : Nat.ble al.length n = true) (h : c.wp P (bodyPost P fn R) (mkA n (fun t => al.getD t undef) []) w) : Calls P f args w R := by
  subst ha; subst hn
  refine calls_of_wp hf hb ?_
  rw [mkA_args al _ (by simpa using hl)]
  exact h
theorem Tri.into {f : FuncId} {fn : Func} {c : Code} {args : Array Value} {al : List Value} {R : HP} {pre : List SP} {Qc : Value → List SP → Prop} (hf : P.funcs[f]? = some fn) (hb : fn.body = some c) (hn : fn.ntmps = n)
    (ha : args = al.toArray) (hl : Nat.ble al.length n = true)
    (h : ∀ w F, Holds w (ro R :: (pre ++ F)) → c.wp P (bodyPost P fn fun r w' => ∃ v post, r = .returned v ∧ Qc v post ∧ Same w w' ∧ Holds w' (ro R :: (post ++ F))) (mkA n (fun t => al.getD t undef) []) w) :
    Tri P f args R pre Qc := fun w F hh => Calls.into hf hb hn ha hl (h w F hh)

/-! ### Results -/
theorem ev_getD (t : Nat) : (mkA n e ds).tmps.getD t undef = ev n e (.tmp t) := congrFun (eval_mkA n e ds) (.tmp t)
theorem ev_getO (t : Nat) : (mkA n e ds).tmps[t]?.getD undef = ev n e (.tmp t) := by
  rw [← ev_getD (ds := ds)]; simp
theorem R_0 {fn : Func} {R : Ending → World → Prop} (hr : fn.results = #[]) (h : R (.returned (.tuple #[])) w) : bodyPost P fn R .normal (mkA n e []) w :=
  bodyPost_end (results_none hr _ _ _) (mkA_defers ..) h
theorem R_0r {fn : Func} {R : Ending → World → Prop} (hr : fn.results = #[]) (h : R (.returned (.tuple #[])) w) : bodyPost P fn R .ret (mkA n e []) w :=
  bodyPost_ret (results_none hr _ _ _) (mkA_defers ..) h
theorem R_any {fn : Func} {R : Ending → World → Prop} {v : Value} (hr : (results fn (mkA n e []).tmps).run P w = .ok v w) (h : R (.returned v) w) : bodyPost P fn R .ret (mkA n e []) w :=
  bodyPost_ret hr (mkA_defers ..) h
def resRun (P : Program) (n : Nat) (e : Env) (w : World) : ResultVar → Value → Prop
  | .tmp t, v => ev n e (.tmp t) = v
  | .cell a t, v => ∃ p, ev n e (.tmp a) = .pointer (some p) ∧ (loadVar t p).run P w = .ok v w
theorem run_results1 {fn : Func} {r : ResultVar} {v : Value} (hr : fn.results = #[r]) (h : resRun P n e w r v) : (results fn (mkA n e ds).tmps).run P w = .ok v w := by
  cases r with
  | tmp t => rw [results_tmp hr, ev_getD]; simp only [resRun] at h; rw [h]
  | cell a t =>
    obtain ⟨p, h1, h2⟩ := h
    simp [results, hr, ev_getO, h1, asAddr, h2]
theorem run_results2 {fn : Func} {r s : ResultVar} {v u : Value} (hr : fn.results = #[r, s]) (h : resRun P n e w r v) (h' : resRun P n e w s u) : (results fn (mkA n e ds).tmps).run P w = .ok (.tuple #[v, u]) w := by
  cases r <;> cases s <;> simp only [resRun] at h h'
  · simp [results, hr, ev_getO, h, h']
  · obtain ⟨p, h1, h2⟩ := h'; simp [results, hr, ev_getO, h, h1, asAddr, h2]
  · obtain ⟨p, h1, h2⟩ := h; simp [results, hr, ev_getO, h', h1, asAddr, h2]
  · obtain ⟨p, h1, h2⟩ := h; obtain ⟨p', h1', h2'⟩ := h'; simp [results, hr, ev_getO, h1, h1', asAddr, h2, h2']
theorem load_resN {t s b : Nat} {z : Option Value} {u : TypeDesc} {p : Addr} {vs : List Value} (hu : P.underlying t = some u) (hd : aggD u = true) (hz : tin P t = some (s, b, z)) (hl : vs.length = s)
    (hc : ∀ j v, vs[j]? = some v → w.cell? (p.add j) = some v) : (loadVar t p).run P w = .ok (.agg vs.toArray) w := by
  have := run_loadAtN (P := P) (w := w) hu hd hz hl hc
  simpa [Instr.loadAt, Instr.sureAddr] using this
end
end Go.Proofs.Ytdfjdmmmlidamaa.Gw
set_option linter.unusedVariables false
set_option linter.unusedSimpArgs false
namespace Go.Proofs.Ytdfjdmmmlidamaa.Gw
open Go Go.RowKit
section
variable {P : Program} {n : Nat} {e : Env} {w : World} {K : Value → World → Prop} {Q : Exit → Act → World → Prop} {ops : Array Oper} {rest : List Oper} {ds : List Deferred}
  {d : Option Nat} {ty : TypeId} {pos : String} {af : Array Edge} {g : Option (Nat × Bool)} {l : List SP}
theorem x_cast {o : Oper} {v v' : Value} (h : (execOp (ev n e) o).run P w = .ok (.value v) w) (hv : v = v') : (execOp (ev n e) o).run P w = .ok (.value v') w := hv ▸ h
theorem x_load1 {t : TypeId} {u : TypeDesc} {x : Operand} {p : Addr} {v : Value} (hx : ev n e x = .pointer (some p)) (hu : P.underlying t = some u) (hd : aggD u = false) (hc : w.cell? p = some v) :
    (execOp (ev n e) ⟨d, .load t x, ty, pos, af, g⟩).run P w = .ok (.value v) w := by simp only [execOp]; rw [hx]; exact run_v _ (run_loadAt1 hu hd hc)
theorem x_loadN {t s b : Nat} {z : Option Value} {u : TypeDesc} {x : Operand} {p : Addr} {vs : List Value} (hx : ev n e x = .pointer (some p)) (hu : P.underlying t = some u) (hd : aggD u = true)
    (hz : tin P t = some (s, b, z)) (hl : vs.length = s) (hc : ∀ j v, vs[j]? = some v → w.cell? (p.add j) = some v) : (execOp (ev n e) ⟨d, .load t x, ty, pos, af, g⟩).run P w = .ok (.value (.agg vs.toArray)) w := by
  simp only [execOp]; rw [hx]; exact run_v _ (run_loadAtN hu hd hz hl hc)
theorem x_indexAddr {t el : TypeId} {x y : Operand} {b off len cap i sz bb : Nat} {z : Option Value} {k' : IntKind} {p : Addr} {ii : Int} (hx : ev n e x = .slice (some ⟨b, off, none⟩) len cap) (hy : ev n e y = .int k' ii)
    (hu : P.underlying t = some (.slice el)) (hz : tin P el = some (sz, bb, z)) (h0 : 0 ≤ ii) (hi : ii < len) (hn : ii.toNat = i) (hp : (⟨b, off + i * sz, none⟩ : Addr) = p) :
    (execOp (ev n e) ⟨d, .indexAddr t x y, ty, pos, af, g⟩).run P w = .ok (.value (.pointer (some p))) w := by
  subst hp; subst hn
  simp only [execOp]
  rw [hx, hy]
  refine run_v _ ?_
  simp [Instr.indexAt, asIntOf, run_underlying hu, h0, hi, run_sizeOf hz, add_mk]
theorem x_slice {t el : TypeId} {x : Operand} {lo hi : Option Operand} {a : Option Addr} {len cap sz bb l h : Nat} {z : Option Value} {v : Value} (hx : ev n e x = .slice a len cap) (hu : P.underlying t = some (.slice el))
    (hz : tin P el = some (sz, bb, z)) (hh : (match hi.map (ev n e) with | none => h = len | some v => ∃ k i, v = .int k i ∧ 0 ≤ i ∧ i ≤ cap ∧ i.toNat = h))
    (hl : (match lo.map (ev n e) with | none => l = 0 | some v => ∃ k i, v = .int k i ∧ 0 ≤ i ∧ i ≤ h ∧ i.toNat = l)) (hv : Value.slice (if cap = l then a else a.map (·.add (l * sz))) (h - l) (cap - l) = v) :
    (execOp (ev n e) ⟨d, .slice t x lo hi none, ty, pos, af, g⟩).run P w = .ok (.value v) w := by
  subst hv
  simp only [execOp]
  rw [hx]
  refine run_v _ ?_
  exact run_slice_slice hu hz (run_bounds hh hl)
theorem x_convI {s t : TypeId} {x : Operand} {k k' : IntKind} {a b : Int} {u : TypeDesc} (hx : ev n e x = .int k a) (hs : P.underlying s = some u) (ht : P.underlying t = some (.int k')) (hv : k'.wrap a = b) :
    (execOp (ev n e) ⟨d, .convert s t x, ty, pos, af, g⟩).run P w = .ok (.value (.int k' b)) w := by
  subst hv
  simp only [execOp]
  rw [hx]
  refine run_v _ ?_
  simp only [convert, Sem.run_bind, run_underlying hs, run_underlying ht, Result.andThen_ok]
  cases u <;> simp [Conv.intToInt]
theorem x_lenS {argO : Operand} {t : TypeId} {el : TypeId} {a : Option Addr} {len cap : Nat} (hx : ev n e argO = .slice a len cap) (hu : P.underlying t = some (.slice el)) :
    (execOp (ev n e) ⟨d, .call { callee := .builtin .len, args := #[argO], argTypes := #[t] }, ty, pos, af, g⟩).run P w = .ok (.value (.int .i64 len)) w := by
  simp only [execOp, resolve, Sem.run_bind, Sem.run_pure, Result.andThen_ok, invoke, builtin]
  simp [hx, Builtin.len_, run_underlying hu, goInt]
theorem x_capS {argO : Operand} {t : TypeId} {el : TypeId} {a : Option Addr} {len cap : Nat} (hx : ev n e argO = .slice a len cap) (hu : P.underlying t = some (.slice el)) :
    (execOp (ev n e) ⟨d, .call { callee := .builtin .cap, args := #[argO], argTypes := #[t] }, ty, pos, af, g⟩).run P w = .ok (.value (.int .i64 cap)) w := by
  simp only [execOp, resolve, Sem.run_bind, Sem.run_pure, Result.andThen_ok, invoke, builtin]
  simp [hx, Builtin.cap_, run_underlying hu, goInt]
theorem x_shr {t u : TypeId} {x y : Operand} {k k' : IntKind} {a b c : Int} (hx : ev n e x = .int k a) (hy : ev n e y = .int k' b) (hb : 0 ≤ b) (hv : a.fdiv (2 ^ (min b.toNat k.bits)) = c) :
    (execOp (ev n e) ⟨d, .binOp .shr t x y u, ty, pos, af, g⟩).run P w = .ok (.value (.int k c)) w := by
  subst hv
  simp only [execOp]
  rw [hx, hy]
  refine run_v _ ?_
  have : ¬ b < 0 := by omega
  simp [run_eqGuard_int, binOp, Op.shift, this]
theorem x_not {x : Operand} {t : TypeId} {b : Bool} (hx : ev n e x = .bool b) : (execOp (ev n e) ⟨d, .unOp .not t x, ty, pos, af, g⟩).run P w = .ok (.value (.bool !b)) w := by
  simp only [execOp]; rw [hx]; rfl
theorem x_notP {x : Operand} {t : TypeId} {p : Prop} [Decidable p] (hx : ev n e x = .bool (decide p)) : (execOp (ev n e) ⟨d, .unOp .not t x, ty, pos, af, g⟩).run P w = .ok (.value (.bool (decide (¬ p)))) w := by
  rw [x_not hx]; simp
theorem x_pickT {c x y : Operand} {v : Value} (hc : ev n e c = .bool true) (hx : ev n e x = v) : (execOp (ev n e) ⟨d, .pick c x y, ty, pos, af, g⟩).run P w = .ok (.value v) w := by
  simpa using x_pick (P := P) (w := w) (d := d) (ty := ty) (pos := pos) (af := af) (g := g) hc hx (rfl : ev n e y = ev n e y)
theorem x_pickF {c x y : Operand} {v : Value} (hc : ev n e c = .bool false) (hy : ev n e y = v) : (execOp (ev n e) ⟨d, .pick c x y, ty, pos, af, g⟩).run P w = .ok (.value v) w := by
  simpa using x_pick (P := P) (w := w) (d := d) (ty := ty) (pos := pos) (af := af) (g := g) hc (rfl : ev n e x = ev n e x) hy
/-! ### What a block of ours, or one that is only read, holds -/
def Rd (b : Nat) (cs : List Value) (w : World) : Prop := ∀ k v, cs[k]? = some v → w.cell? ⟨b, k, none⟩ = some v
theorem Rd.cells {b : Nat} {cs : List Value} (h : Rd b cs w) (off : Nat) {vs : List Value} (hv : (cs.drop off).take vs.length = vs) : ∀ j v, vs[j]? = some v → w.cell? ((Addr.mk b off none).add j) = some v := by
  intro j v hj
  rw [add_mk]
  refine h _ _ ?_
  rw [← hv] at hj
  rw [List.getElem?_take] at hj
  split at hj
  · rw [List.getElem?_drop] at hj; exact hj
  · cases hj
theorem Holds.rd (h : Holds w l) (i : Nat) {b : Nat} {T : TypeId} {cs : List Value} (hi : l[i]? = some (cl b T cs)) : Rd b cs w := fun _ _ hk => h.cl_cell i hi hk

/-! ### Regions whose order is open -/
theorem A_start {id N : Nat} {lo : List Oper} {S : World → Prop} (hm : P.follows .mixedOrders = true) (hs : Nat.beq lo.length N = true) {ls : Array Bool} (hl : Array.replicate N false = ls)
    (h : wpAnyH P .any lo.toArray Q S N ls (mkA n e ds) w.drew) : (Code.region id lo.toArray true).wp P Q (mkA n e ds) w := by
  have hs' : lo.length = N := Nat.eq_of_beq_eq_true hs
  subst hl
  refine wp_region_held (S := S) hm ?_
  have : lo.toArray.size = N := by simpa using hs'
  rw [this]
  exact h
theorem A_take {lo : List Oper} {S : World → Prop} {fuel : Nat} {ls ls' : Array Bool} (i : Nat) {dd : Nat} {op : Op} {v : Value} (hi : lo[i]? = some ⟨some dd, op, ty, pos, af, none⟩) (hs : Region.noSelect lo.toArray = true)
    (hf : Region.free .any lo.toArray ls i = true) (hr : (Region.ready .any lo.toArray ls).contains i = true) (hl : ls.setIfInBounds i true = ls') (hQ : ∀ c a w, Q (.panic c) (a.put (some dd) v) w → Q (.panic c) a w)
    (hy : ∀ w, S w → (execOp (ev n e) ⟨some dd, op, ty, pos, af, none⟩).run P w = .ok (.value v) w) (hS : S w) (h : wpAnyH P .any lo.toArray Q S fuel ls' (mkA n (upd e dd v) ds) w) :
    wpAnyH P .any lo.toArray Q S (fuel + 1) ls (mkA n e ds) w := by
  subst hl
  have hi : lo.toArray[i]? = _ := (List.getElem?_toArray ..).trans hi
  refine wpAnyH_take hi hs hf hr hQ (.inl ⟨rfl, fun w hw => ?_⟩) hS ?_
  · rw [eval_mkA]; exact hy w hw
  · rw [put_mkA]; exact h
theorem A_takeYes {lo : List Oper} {S : World → Prop} {fuel : Nat} {ls ls' : Array Bool} (i : Nat) {dd j dj : Nat} {b : Bool} {op : Op} {v : Value} (hi : lo[i]? = some ⟨some dd, op, ty, pos, af, some (j, b)⟩) (hs : Region.noSelect lo.toArray = true)
    (hf : Region.free .any lo.toArray ls i = true) (hr : (Region.ready .any lo.toArray ls).contains i = true) (hl : ls.setIfInBounds i true = ls') (hQ : ∀ c a w, Q (.panic c) (a.put (some dd) v) w → Q (.panic c) a w)
    (hj : (lo[j]?).bind (·.dst) = some dj) (hn : Nat.blt dj n = true) (hb : e dj = .bool b)
    (hy : ∀ w, S w → (execOp (ev n e) ⟨some dd, op, ty, pos, af, some (j, b)⟩).run P w = .ok (.value v) w) (hS : S w) (h : wpAnyH P .any lo.toArray Q S fuel ls' (mkA n (upd e dd v) ds) w) :
    wpAnyH P .any lo.toArray Q S (fuel + 1) ls (mkA n e ds) w := by
  subst hl
  have hi : lo.toArray[i]? = _ := (List.getElem?_toArray ..).trans hi
  refine wpAnyH_take hi hs hf hr hQ (.inl ⟨by simp [Region.wanted, yielded_mkA (ds := ds) hj hn hb], fun w hw => ?_⟩) hS ?_
  · rw [eval_mkA]; exact hy w hw
  · rw [put_mkA]; exact h
theorem A_takeNo {lo : List Oper} {S : World → Prop} {fuel : Nat} {ls ls' : Array Bool} (i : Nat) {dd j dj : Nat} {b c : Bool} {op : Op} (hi : lo[i]? = some ⟨some dd, op, ty, pos, af, some (j, c)⟩) (hs : Region.noSelect lo.toArray = true)
    (hf : Region.free .any lo.toArray ls i = true) (hr : (Region.ready .any lo.toArray ls).contains i = true) (hl : ls.setIfInBounds i true = ls') (hQ : ∀ c a w, Q (.panic c) (a.put (some dd) undef) w → Q (.panic c) a w)
    (hj : (lo[j]?).bind (·.dst) = some dj) (hn : Nat.blt dj n = true) (hb : e dj = .bool b) (hc : b ≠ c) (hS : S w)
    (h : wpAnyH P .any lo.toArray Q S fuel ls' (mkA n (upd e dd undef) ds) w) : wpAnyH P .any lo.toArray Q S (fuel + 1) ls (mkA n e ds) w := by
  subst hl
  have hi : lo.toArray[i]? = _ := (List.getElem?_toArray ..).trans hi
  refine wpAnyH_take hi hs hf hr hQ (.inr ⟨by simp [Region.wanted, yielded_mkA (ds := ds) hj hn hb, hc], rfl⟩) hS ?_
  rw [put_mkA]; exact h
theorem A_done {S : World → Prop} {fuel : Nat} {ls : Array Bool} (hr : Region.ready .any ops ls = []) (h : Q .normal (mkA n e ds) w) : wpAnyH P .any ops Q S fuel ls (mkA n e ds) w := wpAnyH_done hr h fuel
def AllR (P : Program) (ops : Array Oper) (Q : Exit → Act → World → Prop) (S : World → Prop) (fuel : Nat) (ls : Array Bool) (a : Act) (w : World) (rs : List Nat) : Prop :=
  ∀ i ∈ rs, wpOp P ops Q i (fun a' w' => S w' ∧ wpAnyH P .any ops Q S fuel (ls.setIfInBounds i true) a' w') a w
theorem A_ready {S : World → Prop} {fuel : Nat} {ls : Array Bool} {i : Nat} {rs : List Nat} (hr : Region.ready .any ops ls = i :: rs) (h : AllR P ops Q S fuel ls (mkA n e ds) w (i :: rs)) :
    wpAnyH P .any ops Q S (fuel + 1) ls (mkA n e ds) w := wpAnyH_all hr (by simp) h
theorem AllR.nil {S : World → Prop} {fuel : Nat} {ls : Array Bool} {a : Act} : AllR P ops Q S fuel ls a w [] := fun i hi => by cases hi
theorem AllR.cons {S : World → Prop} {fuel : Nat} {ls : Array Bool} {a : Act} {i : Nat} {rs : List Nat}
    (h : wpOp P ops Q i (fun a' w' => S w' ∧ wpAnyH P .any ops Q S fuel (ls.setIfInBounds i true) a' w') a w) (k : AllR P ops Q S fuel ls a w rs) : AllR P ops Q S fuel ls a w (i :: rs) := fun j hj => by
  rcases List.mem_cons.1 hj with rfl | hj
  · exact h
  · exact k j hj
theorem A_op {lo : List Oper} {S : World → Prop} {fuel i dd : Nat} {ls ls' : Array Bool} {op : Op} (hi : lo[i]? = some ⟨some dd, op, ty, pos, af, none⟩) (hl : ls.setIfInBounds i true = ls')
    (h : Stp P n e ⟨some dd, op, ty, pos, af, none⟩ w fun v w' => S w' ∧ wpAnyH P .any lo.toArray Q S fuel ls' (mkA n (upd e dd v) ds) w') :
    wpOp P lo.toArray Q i (fun a' w' => S w' ∧ wpAnyH P .any lo.toArray Q S fuel (ls.setIfInBounds i true) a' w') (mkA n e ds) w := by
  subst hl
  unfold wpOp
  rw [List.getElem?_toArray, hi]
  dsimp only
  rw [if_pos (by rfl)]
  refine .inl (Stp.wp ?_)
  simpa only [put_mkA] using h
theorem A_op0 {lo : List Oper} {S : World → Prop} {fuel i : Nat} {ls ls' : Array Bool} {op : Op} (hi : lo[i]? = some ⟨none, op, ty, pos, af, none⟩) (hl : ls.setIfInBounds i true = ls')
    (h : Stp P n e ⟨none, op, ty, pos, af, none⟩ w fun v w' => S w' ∧ wpAnyH P .any lo.toArray Q S fuel ls' (mkA n e ds) w') :
    wpOp P lo.toArray Q i (fun a' w' => S w' ∧ wpAnyH P .any lo.toArray Q S fuel (ls.setIfInBounds i true) a' w') (mkA n e ds) w := by
  subst hl
  unfold wpOp
  rw [List.getElem?_toArray, hi]
  dsimp only
  rw [if_pos (by rfl)]
  exact .inl (Stp.wp h)
theorem A_opYes {lo : List Oper} {S : World → Prop} {fuel i dd j dj : Nat} {b : Bool} {ls ls' : Array Bool} {op : Op} (hi : lo[i]? = some ⟨some dd, op, ty, pos, af, some (j, b)⟩) (hl : ls.setIfInBounds i true = ls')
    (hj : (lo[j]?).bind (·.dst) = some dj) (hn : Nat.blt dj n = true) (hb : e dj = .bool b)
    (h : Stp P n e ⟨some dd, op, ty, pos, af, some (j, b)⟩ w fun v w' => S w' ∧ wpAnyH P .any lo.toArray Q S fuel ls' (mkA n (upd e dd v) ds) w') :
    wpOp P lo.toArray Q i (fun a' w' => S w' ∧ wpAnyH P .any lo.toArray Q S fuel (ls.setIfInBounds i true) a' w') (mkA n e ds) w := by
  subst hl
  unfold wpOp
  rw [List.getElem?_toArray, hi]
  dsimp only
  rw [if_pos (by simp [Region.wanted, yielded_mkA (ds := ds) hj hn hb])]
  refine .inl (Stp.wp ?_)
  simpa only [put_mkA] using h
end
end Go.Proofs.Ytdfjdmmmlidamaa.Gw
set_option linter.unusedVariables false
set_option linter.unusedSimpArgs false
namespace Go.Proofs.Ytdfjdmmmlidamaa.Gw
open Go Go.RowKit
section
variable {P : Program} {n : Nat} {e : Env} {w : World} {K : Value → World → Prop} {Q : Exit → Act → World → Prop} {ops : Array Oper} {rest : List Oper} {ds : List Deferred}
  {d : Option Nat} {ty : TypeId} {pos : String} {af : Array Edge} {g : Option (Nat × Bool)} {l : List SP}

def sl (T sz : Nat) (v : Value) (m : Nat) (xs : List Value) : SP := fun h =>
  (v = .slice none 0 0 ∧ m = 0 ∧ xs = []) ∨ ∃ b pr sp cap, v = .slice (some ⟨b, pr.length, none⟩) m cap ∧ xs.length = m * sz ∧ sp.length = (cap - m) * sz ∧ m ≤ cap ∧ cl b T (pr ++ xs ++ sp) h
theorem sl_nil (T sz : Nat) (h : HP) : sl T sz (.slice none 0 0) 0 [] h := .inl ⟨rfl, rfl, rfl⟩
theorem Sat.add_free {A : SP} (hA : ∀ h, A h) {l : List SP} {g : HP} (h : Sat l g) : Sat (A :: l) g :=
  ⟨(fun _ => none), g, (fun _ _ e => by cases e), Sub.rfl' g, (fun _ => Or.inl rfl), hA _, h⟩
theorem Holds.add_nil (h : Holds w l) (T sz : Nat) : Holds w (sl T sz (.slice none 0 0) 0 [] :: l) := Sat.add_free (sl_nil T sz) h
theorem Sat.map_at {A B : SP} {g : HP} (i : Nat) (hi : l[i]? = some A) (f : ∀ h, A h → B h) (h : Sat l g) : Sat (l.set i B) g :=
  Sat.set i hi h fun h' k s t d a => ⟨h', s, t, d, f h' a⟩
theorem Holds.map_at {A B : SP} (h : Holds w l) (i : Nat) (hi : l[i]? = some A) (f : ∀ h, A h → B h) : Holds w (l.set i B) := Sat.map_at i hi f h
theorem Holds.to_sl (h : Holds w l) (i : Nat) {b T sz m cap : Nat} {xs : List Value} (pr sp : List Value) (hi : l[i]? = some (cl b T (pr ++ xs ++ sp))) (h1 : xs.length = m * sz) (h2 : sp.length = (cap - m) * sz) (h3 : m ≤ cap) :
    Holds w (l.set i (sl T sz (.slice (some ⟨b, pr.length, none⟩) m cap) m xs)) :=
  h.map_at i hi fun h' a => .inr ⟨b, pr, sp, cap, rfl, h1, h2, h3, a⟩
theorem Holds.sl_at (h : Holds w l) (i : Nat) {T sz m : Nat} {v : Value} {xs : List Value} (hi : l[i]? = some (sl T sz v m xs)) :
    (v = .slice none 0 0 ∧ m = 0 ∧ xs = []) ∨ ∃ b pr sp cap, v = .slice (some ⟨b, pr.length, none⟩) m cap ∧ xs.length = m * sz ∧ sp.length = (cap - m) * sz ∧ m ≤ cap ∧ Holds w (l.set i (cl b T (pr ++ xs ++ sp))) := by
  obtain ⟨h1, k, s, t, dd, a, r⟩ := Sat.bring i hi h
  rcases a with a | ⟨b, pr, sp, cap, e1, e2, e3, e4, a⟩
  · exact .inl a
  · refine .inr ⟨b, pr, sp, cap, e1, e2, e3, e4, ?_⟩
    have hl : i < l.length := (List.getElem?_eq_some_iff.1 hi).1
    refine Sat.back i (A := cl b T (pr ++ xs ++ sp)) (by simp [hl]) ?_
    rw [List.eraseIdx_set_eq]
    exact ⟨h1, k, s, t, dd, a, r⟩
theorem Holds.sl_len (h : Holds w l) (i : Nat) {T sz m : Nat} {v : Value} {xs : List Value} (hi : l[i]? = some (sl T sz v m xs)) : xs.length = m * sz ∧ ∃ a cap, v = .slice a m cap ∧ m ≤ cap := by
  rcases h.sl_at i hi with ⟨rfl, rfl, rfl⟩ | ⟨b, pr, sp, cap, rfl, e2, e3, e4, _⟩
  · exact ⟨by simp, _, _, rfl, Nat.le_refl _⟩
  · exact ⟨e2, _, _, rfl, e4⟩
theorem Holds.cl_src (h : Holds w l) (i : Nat) {b T sz m c t e' : Nat} {xs : List Value} (hi : l[i]? = some (cl b T xs)) (hk : P.underlying t = some (.slice e')) (h1 : ∀ u ∈ xs, u.oneCell' = true) (hl : xs.length = m * sz) :
    Src P sz t (.slice (some ⟨b, 0, none⟩) m c) m xs w :=
  Src.ofSlice w hk _ _ _ _ hl (fun j u hj => by rw [add_mk, Nat.zero_add]; exact h.cl_cell i hi hj) h1
theorem setCells_eq (b : Nat) : ∀ (vs : List Value) (o : Nat) (w : World), w.setCells b o vs = setCells w b o vs
  | [], _, _ => rfl
  | v :: r, o, w => setCells_eq b r (o + 1) _
theorem Same.drew_alloc (w : World) (o : Obj) : Same w (w.drew.alloc o) := ⟨rfl, rfl, rfl⟩

theorem run_append_sl {t tx ty el sz bb m k : Nat} {z v x : Value} {xs ys : List Value} (ht : P.underlying t = some (.slice el)) (hz : tin P el = some (sz, bb, some z)) (hzs : z.cells.size = sz) (hb : 0 < bb)
    (h : Holds w l) (i : Nat) (hi : l[i]? = some (sl el sz v m xs)) (hs : Src P sz tx x k ys w) (hroom : (m + k) * bb ≤ 140737488355328) :
    ∃ v' w', (Builtin.append_ #[t, tx] ty #[v, x]).run P w = .ok v' w' ∧ Same w w' ∧ Holds w' (l.set i (sl el sz v' (m + k) (xs ++ ys))) := by
  obtain ⟨ti, hti, h1, h2, h3⟩ := tin_info hz
  have hl : i < l.length := (List.getElem?_eq_some_iff.1 hi).1
  have hset : l.set i (sl el sz v m xs) = l := by
    obtain ⟨hl, he⟩ := List.getElem?_eq_some_iff.1 hi
    rw [← he]; simp
  have hmk : m + k ≤ 140737488355328 := Nat.le_trans (Nat.le_mul_of_pos_right _ hb) hroom
  have grow : ∀ (base : Option Addr) (cap : Nat), cap < m + k → (Builtin.firstCells sz m (.slice base m cap)).run P w.drew = .ok xs.toArray w.drew → xs.length = m * sz →
      ∃ v' w', (Builtin.append_ #[t, tx] ty #[.slice base m cap, x]).run P w = .ok v' w' ∧ Same w w' ∧ Holds w' (l.set i (sl el sz v' (m + k) (xs ++ ys))) := by
    intro base cap hg hold hlen
    have hfit : Builtin.nextslicecap (m + k) cap * ti.bytes ≤ 281474976710656 := by
      rw [h2]
      have := nextslicecap_le hg
      calc Builtin.nextslicecap (m + k) cap * bb ≤ 2 * (m + k) * bb := Nat.mul_le_mul_right _ this
        _ = 2 * ((m + k) * bb) := by rw [Nat.mul_assoc]
        _ ≤ _ := by omega
    have hr := run_append_grow_src (P := P) w t tx ty el ti z ht hti h3 base m cap xs (by rw [h1]; exact hold) x k ys (by rw [h1]; exact hs) hg (by omega) hfit
    refine ⟨_, _, hr, Same.drew_alloc w _, ?_⟩
    have hge : m + k ≤ grownCap w (m + k) cap el := grownCap_ge w (m + k) cap el
    have ha := (h.drew).alloc (((xs ++ ys).toArray ++ Builtin.zeroCells z.cells (grownCap w (m + k) cap el - (m + k)))) el
    have hb' := ha.bring (i + 1) (A := sl el sz v m xs) (by simpa using hi)
    have hc := hb'.tail
    -- the new row in the old one's place
    have hd : Holds (w.drew.alloc (.cells ((xs ++ ys).toArray ++ Builtin.zeroCells z.cells (grownCap w (m + k) cap el - (m + k))) el))
        (sl el sz (.slice (some ⟨w.heap.size, 0, none⟩) (m + k) (grownCap w (m + k) cap el)) (m + k) (xs ++ ys) :: l.eraseIdx i) := by
      refine Holds.map_at (B := sl el sz (.slice (some ⟨w.heap.size, 0, none⟩) (m + k) (grownCap w (m + k) cap el)) (m + k) (xs ++ ys)) hc 0 rfl fun h' a => .inr ⟨w.heap.size, [], (Builtin.zeroCells z.cells (grownCap w (m + k) cap el - (m + k))).toList, grownCap w (m + k) cap el, rfl, ?_, ?_, hge, ?_⟩
      · rw [List.length_append, hlen, hs.newsLen, Nat.add_mul]
      · rw [Array.length_toList]
        simp [Builtin.zeroCells, hzs]
      · simpa using a
    refine Sat.back i (A := sl el sz (.slice (some ⟨w.heap.size, 0, none⟩) (m + k) (grownCap w (m + k) cap el)) (m + k) (xs ++ ys)) (by simp [hl]) ?_
    rw [List.eraseIdx_set_eq]
    exact hd
  rcases h.sl_at i hi with ⟨rfl, rfl, rfl⟩ | ⟨b, pr, sp, cap, rfl, e2, e3, e4, hh⟩
  · by_cases hk : k = 0
    · subst hk
      have hys : ys = [] := by
        have := hs.newsLen
        simpa using this
      subst hys
      refine ⟨.slice none 0 0, w, ?_, Same.refl w, by rw [show 0 + 0 = 0 by rfl, List.append_nil, hset]; exact h⟩
      rcases hs.kind with ⟨e', hk⟩ | hk <;> simp [Builtin.append_, run_underlying ht, run_underlying hk, sizeOf, typeInfo, hti, hs.len, h1, hs.cells]
    · exact grow none 0 (by omega) (run_firstCells_none _ _ _ _ _) (by simp)
  · by_cases hroom' : m + k ≤ cap
    · have hyl := hs.newsLen
      have hsp : k * sz ≤ sp.length := by
        rw [e3]
        exact Nat.mul_le_mul_right _ (by omega)
      have hi' : (l.set i (cl b el (pr ++ xs ++ sp)))[i]? = some (cl b el (pr ++ xs ++ sp)) := by simp [hl]
      have hoff : pr.length + m * sz + ys.length ≤ (pr ++ xs ++ sp).length := by simp only [List.length_append]; omega
      have hr := run_append_room_src (P := P) w t tx ty el ti ht hti b pr.length m cap x k ys (by rw [h1]; exact hs) hroom'
        (fun j hj => by
          rw [h1, hh.cl_cell i hi' (List.getElem?_eq_getElem (by omega : pr.length + m * sz + j < (pr ++ xs ++ sp).length))]; rfl)
        (fun j hj => by rw [h1]; exact hh.cl_frozen i hi' (by omega))
      rw [h1] at hr
      refine ⟨_, _, hr, by rw [setCells_eq]; exact Same.setCells b ys _ w, ?_⟩
      rw [setCells_eq]
      have hset2 := Holds.setCells i ys (pr.length + m * sz) w _ _ hh hi' hoff
      rw [List.set_set] at hset2
      have e : (pr ++ xs ++ sp).take (pr.length + m * sz) ++ ys ++ (pr ++ xs ++ sp).drop (pr.length + m * sz + ys.length) = pr ++ (xs ++ ys) ++ sp.drop ys.length := by
        have e0 : (pr ++ xs).length = pr.length + m * sz := by rw [List.length_append, e2]
        rw [← e0, List.take_left, List.drop_append, List.drop_eq_nil_of_le (by omega), show (pr ++ xs).length + ys.length - (pr ++ xs).length = ys.length by omega]
        simp [List.append_assoc]
      rw [e] at hset2
      have := Holds.map_at (B := sl el sz (.slice (some ⟨b, pr.length, none⟩) (m + k) cap) (m + k) (xs ++ ys)) hset2 i (by simp [hl]) fun h' a =>
        .inr ⟨b, pr, sp.drop ys.length, cap, rfl, by rw [List.length_append, e2, hyl, Nat.add_mul], by rw [List.length_drop, e3, hyl, ← Nat.sub_mul]; congr 1; omega, hroom', a⟩
      rwa [List.set_set] at this
    · refine grow _ cap (by omega) ?_ e2
      refine run_firstCells_some _ _ _ _ _ _ _ e2 fun j u hj => ?_
      rw [add_mk]
      have hi' : (l.set i (cl b el (pr ++ xs ++ sp)))[i]? = some (cl b el (pr ++ xs ++ sp)) := by simp [hl]
      have := hh.drew.cl_cell i hi' (k := pr.length + j) (v := u) ?_
      · exact this
      · have hj' : j < xs.length := (List.getElem?_eq_some_iff.1 hj).1
        rw [List.append_assoc, List.getElem?_append_right (by omega), show pr.length + j - pr.length = j by omega, List.getElem?_append_left hj', hj]
theorem T_append {t tx el sz bb m k : Nat} {o1 o2 : Operand} {z v x : Value} {xs ys : List Value} (h1 : ev n e o1 = v) (h2 : ev n e o2 = x) (ht : P.underlying t = some (.slice el)) (hz : tin P el = some (sz, bb, some z)) (hzs : z.cells.size = sz) (hb : 0 < bb)
    (h : Holds w l) (i : Nat) (hi : l[i]? = some (sl el sz v m xs)) (hs : Src P sz tx x k ys w) (hroom : (m + k) * bb ≤ 140737488355328)
    (kk : ∀ v' w', Same w w' → Holds w' (l.set i (sl el sz v' (m + k) (xs ++ ys))) → K v' w') :
    Stp P n e ⟨d, .call { callee := .builtin .append, args := #[o1, o2], argTypes := #[t, tx] }, ty, pos, af, g⟩ w K := by
  obtain ⟨v', w', hr, hsame, hh⟩ := run_append_sl (ty := ty) ht hz hzs hb h i hi hs hroom
  refine .inl ⟨v', w', ?_, kk v' w' hsame hh⟩
  simp only [execOp, resolve, Sem.run_bind, Sem.run_pure, Result.andThen_ok, invoke, builtin]
  simp [h1, h2, hr]

/-! ### Strings and bytes -/
end
end Go.Proofs.Ytdfjdmmmlidamaa.Gw
set_option linter.unusedVariables false
set_option linter.unusedSimpArgs false
namespace Go.Proofs.Ytdfjdmmmlidamaa.Gw
open Go Go.RowKit
section
variable {P : Program} {n : Nat} {e : Env} {w : World} {K : Value → World → Prop} {Q : Exit → Act → World → Prop} {ops : Array Oper} {rest : List Oper} {ds : List Deferred}
  {d : Option Nat} {ty : TypeId} {pos : String} {af : Array Edge} {g : Option (Nat × Bool)} {l : List SP}
end
end Go.Proofs.Ytdfjdmmmlidamaa.Gw
set_option linter.unusedVariables false
set_option linter.unusedSimpArgs false
namespace Go.Proofs.Ytdfjdmmmlidamaa.Gw
open Go Go.RowKit Go.ChangeShapes Go.WideShapes Go.ChangeAt
theorem trodAll_stays {H : Type} {enc : TypeId × Value → H} {P : Program} (hl : laidOutB P = true) {W W' : World} (hb : Below W.heap.size W W') :
    ∀ (ts : List TypeId) (vs : List Value) (ds : List (DataW H)) (ps : List MemPlace), (ts.all fun t => P.readableRec t && decide (t < P.types.size)) = true →
      DataW.TrodAll enc P W 0 (fun _ => true) true ts vs ds ps → (∀ x ∈ ps, x.block < W.heap.size) → DataW.TrodAll enc P W' 0 (fun b => decide (b < W.heap.size)) true ts vs ds ps
  | [], [], [], ps, _, h, _ => h
  | t :: ts, v :: vs, d :: ds, ps, hts, h, hlt => by
    obtain ⟨p, q, h1, h2, rfl⟩ := h
    simp only [List.all_cons, Bool.and_eq_true, decide_eq_true_eq] at hts
    exact ⟨p, q, Below.trod hl hts.1.1 hts.1.2 h1 hb (fun x hx => hlt x (by simp [hx])), trodAll_stays hl hb ts vs ds q (by simpa using hts.2) h2 (fun x hx => hlt x (by simp [hx])), rfl⟩
  | [], [], _ :: _, _, _, h, _ => h.elim
  | [], _ :: _, _, _, _, h, _ => h.elim
  | _ :: _, [], _, _, _, h, _ => h.elim
  | _ :: _, _ :: _, [], _, _, h, _ => h.elim
theorem below_of_holds {W W' : World} {l : List SP} (hs : Same W W') (h : Holds W' (ro (hp W) :: l)) : Below W.heap.size W W' := by
  have hb := h.ro_sub 0 rfl
  have hblk : ∀ k, k < W.heap.size → W'.heap[k]? = W.heap[k]? := fun k hk => by
    have e : hp W k = some W.heap[k] := by simp [hp, hk]
    have := hb k _ e
    simp only [hp] at this
    rw [this]; simp [hk]
  refine ⟨hs.os, hs.tape, hs.output, ?_, hblk⟩
  rcases Nat.lt_or_ge W'.heap.size W.heap.size with h' | h'
  · have := hblk W'.heap.size h'
    rw [Array.getElem?_eq_none (Nat.le_refl _), Array.getElem?_eq_getElem h'] at this
    cases this
  · exact h'
theorem holds_init (W : World) : Holds W [ro (hp W)] :=
  ⟨hp W, (fun _ => none), Sub.rfl' _, (fun _ _ e => by cases e), (fun _ => Or.inr rfl), Sub.rfl' _, trivial⟩
theorem law_calls {P : Program} {f : FuncId} {args : Array Value} {W : World} (h : Tri P f args (hp W) [] fun v post => v = .bool true) :
    Calls P f args W fun e W' => e = .returned (.bool true) ∧ Below W.heap.size W W' :=
  (h W [] (holds_init W)).mono fun e W' ⟨v, post, he, hv, hs, hh⟩ => ⟨by rw [he, hv], below_of_holds hs hh⟩
theorem law_lift {H : Type} {enc : TypeId × Value → H} {C : Checked} {os : Os} {f : FuncId} {fn : Func} {s : ChangeSpec} {tb : TypeId} (own : ownKnob C.prog.godebug = none) (started : os.Started)
    (noInit : C.prog.inits.idxOf? f = none) (hfn : C.prog.funcs[f]? = some fn)
    (witness : ∃ (w : World) (tape : Tape) (i : Input), w.os = os ∧ (w.forCall tape i).Shaped C.prog ∧ i.vars = [] ∧ Input.okWide C.prog (w.forCall tape i) .any w.heap.size f i ∧
      s.pre6 enc C.prog fn [] false (w.forCall tape i).memory i.args ∧ Assume.holds {} C.prog (lone (Frame.enter C.prog f i.args .normal) [] (w.forCall tape i)))
    (hl : laidOutB C.prog = true) (hts : (fn.params.toList.all fun t => C.prog.readableRec t && decide (t < C.prog.types.size)) = true) (hv : s.vars = []) (hrt : fn.resultTypes = #[tb]) (htb : C.prog.underlying tb = some .bool)
    (hs : ∀ ds : List (DataW H), ds.length = fn.params.size → s.fn H ds = { results := [.lit (.bool true)], args := ds })
    (contract : ∀ (W : World) (base : Nat) (args : Array Value) (ds : List (DataW H)) (before : List MemPlace),
      (∀ (j : Nat) t v, fn.params[j]? = some t → args[j]? = some v → Value.okWide C.prog W .any base t v) → DataW.TrodAll enc C.prog W 0 (fun _ => true) true fn.params.toList args.toList ds before →
      (DataW.weightsEach C.prog fn.params.toList ds).all (· ≤ reachBytes) = true →
      Calls C.prog f args W fun e W' => e = .returned (.bool true) ∧ Below W.heap.size W W') :
    ReturnsInHanded {} C os f .any (s.pre6 enc C.prog fn [] false) (s.post enc C.prog fn false true false false) := by
  refine returnsInHanded_of_change_sized own started noInit hfn witness ?_
  intro W base args ds gs before hval hW _ hsz _
  have hW' := hW
  obtain ⟨p, q, hA, hV, rfl, hfz, hnd⟩ := hW
  rw [hv] at hV
  have hgs : gs = [] ∧ q = [] := trodVars_none hV
  obtain ⟨rfl, rfl⟩ := hgs
  have hvt : s.plain.varTypes C.prog = [] := by
    simp only [ChangeSpec.plain, DataSpec.varTypes, hv]
    rfl
  rw [hvt] at hsz
  simp only [List.append_nil] at hsz hW'
  refine (contract W base args ds p hval hA hsz).mono fun e W' ⟨he, hb⟩ => ⟨.bool true, he, ?_⟩
  have hlen : ∀ (ts : List TypeId) (vs : List Value) (ds : List (DataW H)) (ps : List MemPlace), DataW.TrodAll enc C.prog W 0 (fun _ => true) true ts vs ds ps → ds.length = ts.length := by
    intro ts
    induction ts with
    | nil => intro vs ds ps h; cases vs <;> cases ds <;> first | rfl | exact h.elim
    | cons t ts ih =>
      intro vs ds ps h
      cases vs with
      | nil => exact h.elim
      | cons v vs =>
        cases ds with
        | nil => exact h.elim
        | cons d ds => obtain ⟨p, q, _, h2, _⟩ := h; simp [ih vs ds q h2]
  have hd : s.fn H (ds ++ []) = { results := [.lit (.bool true)], args := ds } := by
    rw [List.append_nil]
    exact hs ds (by simpa using hlen _ _ _ _ hA)
  refine ⟨ds, [], p, [], p, [], hW', ?_, ?_, ?_, hb.frame _, fun h => by cases h⟩
  · rw [hd, hrt]
    exact trodAll_mk1 (shut_bool htb true)
  · rw [hd]
    exact trodAll_stays hl hb _ _ _ _ hts hA (fun x hx => hW'.lt x hx)
  · rw [hd, hv]
    rfl
end Go.Proofs.Ytdfjdmmmlidamaa.Gw
set_option linter.unusedVariables false
set_option linter.unusedSimpArgs false
namespace Go.Proofs.Ytdfjdmmmlidamaa.Gw
open Go Go.RowKit
section
variable {P : Program} {n : Nat} {e : Env} {w : World} {K : Value → World → Prop} {Q : Exit → Act → World → Prop} {ops : Array Oper} {rest : List Oper} {ds : List Deferred}
  {d : Option Nat} {ty : TypeId} {pos : String} {af : Array Edge} {g : Option (Nat × Bool)} {l : List SP}
section
variable {dd : Nat} {xs ys : Array Value} {f : Field} {fs : List Field} {a b : Value} {r s : Bool}
theorem eqf_nil : (Op.eqFields dd xs ys []).run P w = .ok true w := by simp [Op.eqFields]
theorem eqf_cons (hn : (f.name == "_") = false) (ha : (part f.type xs f.offset).run P w = .ok a w) (hb : (part f.type ys f.offset).run P w = .ok b w) (he : (Op.equalIn dd f.type a b).run P w = .ok r w) (hr : (Op.eqFields dd xs ys fs).run P w = .ok s w) :
    (Op.eqFields dd xs ys (f :: fs)).run P w = .ok (r && s) w := by
  have hn' : f.name ≠ "_" := by simpa using hn
  rw [Op.eqFields]
  simp only [if_pos hn', Sem.run_bind, ha, hb, he, Result.andThen_ok]
  cases r
  · simp
  · simpa using hr
theorem eq_int {t : TypeId} {k : IntKind} {x y : Int} (hu : P.underlying t = some (.int k)) : (Op.equalIn (dd + 1) t (.int k x) (.int k y)).run P w = .ok (decide (x = y)) w := by
  simp only [Op.equalIn, Sem.run_bind, run_underlying hu, Result.andThen_ok, if_true, Sem.run_pure]
  by_cases h : x = y <;> simp [h]
theorem eq_struct {t : TypeId} {fs : Array Field} (hu : P.underlying t = some (.struct fs)) (hp : P.stoodInHeld t = false) (h : (Op.eqFields dd xs ys fs.toList).run P w = .ok r w) :
    (Op.equalIn (dd + 1) t (.agg xs) (.agg ys)).run P w = .ok r w := by
  have hf : P.fieldsOf t = fs := by simp [Program.fieldsOf, hu]
  rw [run_equalIn_struct (P := P) w dd t xs ys (by rw [hf]; exact hu) hp, hf]
  exact h
end
theorem x_eqS {t u : TypeId} {x y : Operand} {xs ys : Array Value} {r : Bool} (hx : ev n e x = .agg xs) (hy : ev n e y = .agg ys) (hq : P.eqGuardType P.depth t = false) (h : (Op.equalIn (9999 + 1) t (.agg xs) (.agg ys)).run P w = .ok r w) :
    (execOp (ev n e) ⟨d, .binOp .eql t x y u, ty, pos, af, g⟩).run P w = .ok (.value (.bool r)) w := by
  simp only [execOp]
  rw [hx, hy]
  refine run_v _ ?_
  have h1 : (eqGuard .eql t x y (.agg xs) (.agg ys)).run P w = .ok () w := by simp [eqGuard, hq]
  simp only [Sem.run_bind, h1, Result.andThen_ok, binOp]
  have h2 : (Op.equal t (.agg xs) (.agg ys)).run P w = .ok r w := h
  simp [h2]
theorem x_neqS {t u : TypeId} {x y : Operand} {xs ys : Array Value} {r : Bool} (hx : ev n e x = .agg xs) (hy : ev n e y = .agg ys) (hq : P.eqGuardType P.depth t = false) (h : (Op.equalIn (9999 + 1) t (.agg xs) (.agg ys)).run P w = .ok r w) :
    (execOp (ev n e) ⟨d, .binOp .neq t x y u, ty, pos, af, g⟩).run P w = .ok (.value (.bool !r)) w := by
  simp only [execOp]
  rw [hx, hy]
  refine run_v _ ?_
  have h1 : (eqGuard .neq t x y (.agg xs) (.agg ys)).run P w = .ok () w := by simp [eqGuard, hq]
  simp only [Sem.run_bind, h1, Result.andThen_ok, binOp]
  have h2 : (Op.equal t (.agg xs) (.agg ys)).run P w = .ok r w := h
  simp [h2]
theorem min_ite (a b : Int) : (if b < a then b else a) = min a b := by rw [Int.min_def]; split <;> split <;> omega
theorem max_ite (a b : Int) : (if a < b then b else a) = max a b := by rw [Int.max_def]; split <;> split <;> omega
theorem x_min2 {o1 o2 : Operand} {at_ : Array TypeId} {k : IntKind} {a b c : Int} (h1 : ev n e o1 = .int k a) (h2 : ev n e o2 = .int k b) (hv : (if b < a then b else a) = c) :
    (execOp (ev n e) ⟨d, .call { callee := .builtin .min, args := #[o1, o2], argTypes := at_ }, ty, pos, af, g⟩).run P w = .ok (.value (.int k c)) w := by
  subst hv
  simp only [execOp, resolve, Sem.run_bind, Sem.run_pure, Result.andThen_ok, invoke, builtin]
  simp [h1, h2, Builtin.min_, Builtin.min2]
theorem x_max2 {o1 o2 : Operand} {at_ : Array TypeId} {k : IntKind} {a b c : Int} (h1 : ev n e o1 = .int k a) (h2 : ev n e o2 = .int k b) (hv : (if a < b then b else a) = c) :
    (execOp (ev n e) ⟨d, .call { callee := .builtin .max, args := #[o1, o2], argTypes := at_ }, ty, pos, af, g⟩).run P w = .ok (.value (.int k c)) w := by
  subst hv
  simp only [execOp, resolve, Sem.run_bind, Sem.run_pure, Result.andThen_ok, invoke, builtin]
  simp [h1, h2, Builtin.max_, Builtin.max2]
end
end Go.Proofs.Ytdfjdmmmlidamaa.Gw
set_option linter.unusedVariables false
set_option linter.unusedSimpArgs false
namespace Go.Proofs.Ytdfjdmmmlidamaa.Gw
open Go Go.RowKit
section
variable {P : Program} {n : Nat} {e : Env} {w : World} {K : Value → World → Prop} {Q : Exit → Act → World → Prop} {ops : Array Oper} {rest : List Oper} {ds : List Deferred}
  {d : Option Nat} {ty : TypeId} {pos : String} {af : Array Edge} {g : Option (Nat × Bool)} {l : List SP}
def RC (R : HP) (b off : Nat) (xs : List Value) : Prop := ∀ j u, xs[j]? = some u → ∃ cs T fr, R b = some (.cells cs T fr) ∧ cs[off + j]? = some u
theorem RC.cell {R : HP} {b off : Nat} {xs : List Value} (h : RC R b off xs) (hs : Sub R (hp w)) {j : Nat} {u : Value} (hj : xs[j]? = some u) : w.cell? ⟨b, off + j, none⟩ = some u := by
  obtain ⟨cs, T, fr, hb, hc⟩ := h j u hj
  have := hs _ _ hb
  rw [cell_of_row w b (off + j) cs T fr this]
  exact hc
theorem RC.mono {R R' : HP} {b off : Nat} {xs : List Value} (h : RC R b off xs) (hs : Sub R R') : RC R' b off xs := fun j u hj => by
  obtain ⟨cs, T, fr, hb, hc⟩ := h j u hj
  exact ⟨cs, T, fr, hs _ _ hb, hc⟩
theorem RC.drop {R : HP} {b off : Nat} {xs : List Value} (h : RC R b off xs) (k : Nat) : RC R b (off + k) (xs.drop k) := fun j u hj => by
  rw [List.getElem?_drop] at hj
  obtain ⟨cs, T, fr, hb, hc⟩ := h _ u hj
  exact ⟨cs, T, fr, hb, by rw [Nat.add_assoc]; exact hc⟩
theorem RC.take {R : HP} {b off : Nat} {xs : List Value} (h : RC R b off xs) (k : Nat) : RC R b off (xs.take k) := fun j u hj => by
  rw [List.getElem?_take] at hj
  split at hj
  · exact h j u hj
  · cases hj
theorem RC.cells {R : HP} {b off : Nat} {xs : List Value} (h : RC R b off xs) (hs : Sub R (hp w)) (j : Nat) {vs : List Value} (hv : (xs.drop j).take vs.length = vs) :
    ∀ i v, vs[i]? = some v → w.cell? ((Addr.mk b (off + j) none).add i) = some v := by
  intro i v hi
  rw [add_mk, Nat.add_assoc]
  refine h.cell hs ?_
  rw [← hv] at hi
  rw [List.getElem?_take] at hi
  split at hi
  · rw [List.getElem?_drop] at hi; exact hi
  · cases hi
theorem Holds.ro_at (h : Holds w l) (i : Nat) {R : HP} (hi : l[i]? = some (ro R)) : Sub R (hp w) := h.ro_sub i hi
def RS (R : HP) (sz : Nat) (v : Value) (m : Nat) (xs : List Value) : Prop := xs.length = m * sz ∧ ∃ a cap, v = .slice a m cap ∧ m ≤ cap ∧ (0 < m → ∃ b off, a = some ⟨b, off, none⟩ ∧ RC R b off xs)
theorem RS.nil (R : HP) (sz : Nat) : RS R sz (.slice none 0 0) 0 [] := ⟨by simp, none, 0, rfl, Nat.le_refl _, fun h => absurd h (by omega)⟩
theorem RS.mono {R R' : HP} {sz m : Nat} {v : Value} {xs : List Value} (h : RS R sz v m xs) (hs : Sub R R') : RS R' sz v m xs := by
  obtain ⟨h1, a, cap, h2, h3, h4⟩ := h
  exact ⟨h1, a, cap, h2, h3, fun hm => by obtain ⟨b, off, e1, e2⟩ := h4 hm; exact ⟨b, off, e1, e2.mono hs⟩⟩
theorem RS.len {R : HP} {sz m : Nat} {v : Value} {xs : List Value} (h : RS R sz v m xs) : ∃ a cap, v = .slice a m cap ∧ m ≤ cap := by
  obtain ⟨h1, a, cap, h2, h3, h4⟩ := h
  exact ⟨a, cap, h2, h3⟩
theorem RS.at_ {R : HP} {sz m : Nat} {v : Value} {xs : List Value} (h : RS R sz v m xs) (hm : 0 < m) : ∃ b off cap, v = .slice (some ⟨b, off, none⟩) m cap ∧ m ≤ cap ∧ RC R b off xs := by
  obtain ⟨h1, a, cap, h2, h3, h4⟩ := h
  obtain ⟨b, off, rfl, e2⟩ := h4 hm
  exact ⟨b, off, cap, h2, h3, e2⟩
theorem RS.sub {R : HP} {sz m cap k : Nat} {a : Option Addr} {xs : List Value} (h : RS R sz (.slice a m cap) m xs) (hk : k ≤ m) : RS R sz (.slice a k cap) k (xs.take (k * sz)) := by
  obtain ⟨h1, a', cap', h2, h3, h4⟩ := h
  injection h2 with e1 e2 e3
  subst e1; subst e3
  refine ⟨by rw [List.length_take, h1]; exact Nat.min_eq_left (Nat.mul_le_mul_right _ hk), a, cap, rfl, by omega, fun hm => ?_⟩
  obtain ⟨b, off, e1, e2⟩ := h4 (by omega)
  exact ⟨b, off, e1, e2.take _⟩
theorem sl_RS {T sz m : Nat} {v : Value} {xs : List Value} {h R : HP} (a : sl T sz v m xs h) (hs : Sub h R) : RS R sz v m xs := by
  rcases a with ⟨rfl, rfl, rfl⟩ | ⟨b, pr, sp, cap, rfl, e2, e3, e4, fr, hb, hf⟩
  · exact RS.nil R sz
  · refine ⟨e2, _, cap, rfl, e4, fun _ => ⟨b, pr.length, rfl, fun j u hj => ⟨_, _, _, hs _ _ hb, ?_⟩⟩⟩
    have hj' : j < xs.length := (List.getElem?_eq_some_iff.1 hj).1
    simp only [List.getElem?_toArray]
    rw [List.append_assoc, List.getElem?_append_right (by omega), show pr.length + j - pr.length = j by omega, List.getElem?_append_left hj', hj]
theorem cl_RC {b T : Nat} {xs : List Value} {h R : HP} (a : cl b T xs h) (hs : Sub h R) : RC R b 0 xs := fun j u hj => by
  obtain ⟨fr, hb, _⟩ := a
  exact ⟨_, _, _, hs _ _ hb, by simpa using hj⟩
theorem RS.src {R : HP} {sz m t e' : Nat} {v : Value} {xs : List Value} (h : RS R sz v m xs) (hs : Sub R (hp w)) (hk : P.underlying t = some (.slice e')) (h1 : ∀ u ∈ xs, u.oneCell' = true) : Src P sz t v m xs w := by
  obtain ⟨hl, a, cap, rfl, h3, h4⟩ := h
  by_cases hm : 0 < m
  · obtain ⟨b, off, rfl, e2⟩ := h4 hm
    exact Src.ofSlice w hk _ _ _ _ hl (fun j u hj => by rw [add_mk]; exact e2.cell hs hj) h1
  · have : m = 0 := by omega
    subst this
    have : xs = [] := by simpa using hl
    subst this
    cases a with
    | none => exact Src.ofNil w hk cap
    | some a => exact Src.ofSlice w hk _ _ _ _ hl (fun j u hj => by simp at hj) h1
theorem x_lenRS {R : HP} {argO : Operand} {t el : TypeId} {sz m : Nat} {v : Value} {xs : List Value} (hx : ev n e argO = v) (h : RS R sz v m xs) (hu : P.underlying t = some (.slice el)) :
    (execOp (ev n e) ⟨d, .call { callee := .builtin .len, args := #[argO], argTypes := #[t] }, ty, pos, af, g⟩).run P w = .ok (.value (.int .i64 m)) w := by
  obtain ⟨a, cap, rfl, _⟩ := h.len
  exact x_lenS hx hu
/-! ### A slice of one's own -/
theorem Holds.sl_open (h : Holds w l) (i : Nat) {T sz m : Nat} {v : Value} {xs : List Value} (hi : l[i]? = some (sl T sz v m xs)) (hm : 0 < m) :
    ∃ b pr sp cap, v = .slice (some ⟨b, pr.length, none⟩) m cap ∧ xs.length = m * sz ∧ sp.length = (cap - m) * sz ∧ m ≤ cap ∧ Holds w (l.set i (cl b T (pr ++ xs ++ sp))) := by
  rcases h.sl_at i hi with ⟨_, h0, _⟩ | h
  · omega
  · exact h
theorem x_lenSl {argO : Operand} {t el : TypeId} {T sz m : Nat} {v : Value} {xs : List Value} (hx : ev n e argO = v) (h : Holds w l) (i : Nat) (hi : l[i]? = some (sl T sz v m xs)) (hu : P.underlying t = some (.slice el)) :
    (execOp (ev n e) ⟨d, .call { callee := .builtin .len, args := #[argO], argTypes := #[t] }, ty, pos, af, g⟩).run P w = .ok (.value (.int .i64 m)) w := by
  obtain ⟨_, a, cap, rfl, _⟩ := h.sl_len i hi
  exact x_lenS hx hu
theorem Holds.sl_RSw (h : Holds w l) (i : Nat) {T sz m : Nat} {v : Value} {xs : List Value} (hi : l[i]? = some (sl T sz v m xs)) : RS (hp w) sz v m xs := by
  obtain ⟨h', s, a⟩ := Sat.at i hi h
  exact sl_RS a s
/-! ### Lending what is ours to a call that only reads -/
theorem Tri.lend {f : FuncId} {args : Array Value} {R : HP} {A : SP} {pre : List SP} {Qc : Value → List SP → Prop} (h : ∀ h0 : HP, A h0 → Dis R h0 → Tri P f args (un R h0) pre Qc) :
    Tri P f args R (A :: pre) fun v post => ∃ post', post = A :: post' ∧ Qc v post' := by
  intro w F H
  obtain ⟨h0, a, dd, H'⟩ := Holds.lend H
  refine (h h0 a dd w F H').mono fun r w' ⟨v, post, er, q, s, hh⟩ => ⟨v, A :: post, er, ⟨post, rfl, q⟩, s, ?_⟩
  exact Holds.back a dd hh
end
end Go.Proofs.Ytdfjdmmmlidamaa.Gw
set_option linter.unusedVariables false
set_option linter.unusedSimpArgs false
namespace Go.Proofs.Ytdfjdmmmlidamaa.Gw
open Go Go.RowKit Go.ChangeShapes Go.WideShapes Go.ChangeAt
section
variable {H : Type} {enc : TypeId × Value → H} {P : Program} {w : World} {base : Nat} {spare : Nat → Bool} {held : Bool} {t : TypeId} {fuel n : Nat} {cs : List Value} {c : Value}
def Reads (enc : TypeId × Value → H) (P : Program) (w : World) (base : Nat) (spare : Nat → Bool) (held : Bool) (t : TypeId) (cs : List Value) : Prop := ∃ fuel y, DataW.trod enc P w base spare held fuel t cs = some y
theorem inv_int {k : IntKind} (hu : P.underlying t = some (.int k)) (h : Reads enc P w base spare held t [c]) : ∃ a, c = .int k a ∧ (Lit.int k a).wf = true := by
  obtain ⟨fuel, y, h⟩ := h
  obtain ⟨a, e, _, wf⟩ := DataW.trod_int hu h
  simp at e
  exact ⟨a, e, wf⟩
theorem mapM_all {α β : Type} {f : α → Option β} : ∀ {l : List α} {r : List β}, l.mapM f = some r → ∀ x ∈ l, ∃ y, f x = some y
  | [], _, _, x, hx => by cases hx
  | a :: l, r, h, x, hx => by
    rw [List.mapM_cons] at h
    cases ha : f a with
    | none => rw [ha] at h; cases h
    | some b =>
      rw [ha] at h
      cases hl : l.mapM f with
      | none => rw [hl] at h; cases h
      | some bs =>
        rcases List.mem_cons.1 hx with rfl | hx
        · exact ⟨b, ha⟩
        · exact mapM_all hl x hx
theorem reads_of_trod {v : Value} {d : DataW H} {ps : List MemPlace} (h : DataW.Trod enc P w base spare held t v d ps) : Reads enc P w base spare held t v.cells.toList := by
  obtain ⟨fuel, h⟩ := h
  exact ⟨fuel, _, h⟩
end
end Go.Proofs.Ytdfjdmmmlidamaa.Gw
set_option linter.unusedVariables false
set_option linter.unusedSimpArgs false
namespace Go.Proofs.Ytdfjdmmmlidamaa.Gw
open Go Go.RowKit
section
variable {P : Program} {n : Nat} {e : Env} {w : World} {K : Value → World → Prop} {Q : Exit → Act → World → Prop} {ops : Array Oper} {rest : List Oper} {ds : List Deferred}
  {d : Option Nat} {ty : TypeId} {pos : String} {af : Array Edge} {g : Option (Nat × Bool)} {l : List SP}
def sb : Value → Nat
  | .slice (some ⟨b, _, _⟩) _ _ => b
  | _ => 0
def so : Value → Nat
  | .slice (some ⟨_, o, _⟩) _ _ => o
  | _ => 0
theorem RS.rc {R : HP} {sz m : Nat} {v : Value} {xs : List Value} (h : RS R sz v m xs) : RC R (sb v) (so v) xs := by
  obtain ⟨hl, a, cap, rfl, h3, h4⟩ := h
  by_cases hm : 0 < m
  · obtain ⟨b, off, rfl, e2⟩ := h4 hm
    exact e2
  · have : m = 0 := by omega
    subst this
    have : xs = [] := by simpa using hl
    subst this
    intro j u hj
    simp at hj
theorem RS.val {R : HP} {sz m : Nat} {v : Value} {xs : List Value} (h : RS R sz v m xs) (hm : 0 < m) : ∃ cap, v = .slice (some ⟨sb v, so v, none⟩) m cap := by
  obtain ⟨hl, a, cap, rfl, h3, h4⟩ := h
  obtain ⟨b, off, rfl, e2⟩ := h4 hm
  exact ⟨cap, rfl⟩
theorem RS.set_ {R : HP} {sz m m' : Nat} {v : Value} {xs xs' : List Value} (h : RS R sz v m xs) (hx : xs = xs') (hm : m = m') : RS R sz v m' xs' := by subst hx; subst hm; exact h
theorem x_idxRS {R : HP} {t el : TypeId} {x y : Operand} {m i sz bb : Nat} {v : Value} {xs : List Value} {z : Option Value} {k' : IntKind} {p : Addr} {ii : Int} (hx : ev n e x = v) (h : RS R sz v m xs) (hy : ev n e y = .int k' ii)
    (hu : P.underlying t = some (.slice el)) (hz : tin P el = some (sz, bb, z)) (h0 : 0 ≤ ii) (hi : ii < m) (hn : ii.toNat = i) (hp : (⟨sb v, so v + i * sz, none⟩ : Addr) = p) :
    (execOp (ev n e) ⟨d, .indexAddr t x y, ty, pos, af, g⟩).run P w = .ok (.value (.pointer (some p))) w := by
  obtain ⟨cap, hv⟩ := h.val (by omega)
  exact x_indexAddr (hx.trans hv) hy hu hz h0 hi hn hp
theorem fm_len {α : Type} {f : α → List Value} {n : Nat} (hn : ∀ x, (f x).length = n) (l : List α) : (l.flatMap f).length = l.length * n := by
  induction l with
  | nil => simp
  | cons a l ih => rw [List.flatMap_cons, List.length_append, hn, ih, List.length_cons, Nat.add_mul]; omega
theorem fm_drop {α : Type} {f : α → List Value} {n : Nat} (hn : ∀ x, (f x).length = n) : ∀ {l : List α} {k : Nat} {x : α}, l[k]? = some x → (l.flatMap f).drop (k * n) = f x ++ (l.drop (k + 1)).flatMap f
  | [], k, x, h => by simp at h
  | a :: l, 0, x, h => by
    simp only [List.getElem?_cons_zero, Option.some.injEq] at h
    subst h
    simp
  | a :: l, k + 1, x, h => by
    have ih := fm_drop hn (l := l) (k := k) (x := x) (by simpa using h)
    rw [List.flatMap_cons, Nat.add_mul, Nat.one_mul, Nat.add_comm, ← List.drop_drop, List.drop_left' (hn a), ih]
    simp
theorem fm_cell {α : Type} {f : α → List Value} {n : Nat} (hn : ∀ x, (f x).length = n) {l : List α} {k : Nat} {x : α} (hk : l[k]? = some x) {i : Nat} {u : Value} (hu : (f x)[i]? = some u) : (l.flatMap f)[k * n + i]? = some u := by
  rw [← List.getElem?_drop, fm_drop hn hk, List.getElem?_append_left (List.getElem?_eq_some_iff.1 hu).1]
  exact hu
theorem fm_cells {α : Type} {f : α → List Value} {n : Nat} (hn : ∀ x, (f x).length = n) {l : List α} {k : Nat} {x : α} (hk : l[k]? = some x) {i : Nat} {vs : List Value} (hv : ((f x).drop i).take vs.length = vs) :
    ((l.flatMap f).drop (k * n + i)).take vs.length = vs := by
  have hlen : vs.length ≤ ((f x).drop i).length := by
    have := congrArg List.length hv
    rw [List.length_take] at this
    omega
  rw [← List.drop_drop, fm_drop hn hk, List.drop_append, List.take_append_of_le_length hlen]
  exact hv
theorem elem_at {α : Type} (l : List α) (k : Nat) (h : k < l.length) : ∃ x, l[k]? = some x ∧ x ∈ l := ⟨l[k], List.getElem?_eq_getElem h, List.getElem_mem h⟩
theorem Holds.freeze (h : Holds w l) (i : Nat) {A : SP} (hi : l[i]? = some A) : ∃ R0 : HP, A R0 ∧ Holds w (l.set i (ro R0)) := by
  obtain ⟨h1, k, s, t, dd, a, r⟩ := Sat.bring i hi h
  refine ⟨h1, a, Sat.back i (A := ro h1) (by simp [(List.getElem?_eq_some_iff.1 hi).1]) ?_⟩
  rw [List.eraseIdx_set_eq]
  exact ⟨h1, k, s, t, dd, Sub.rfl' _, r⟩
theorem Holds.gift {R1 : HP} {A : SP} (h : Holds w (ro R1 :: A :: l)) : ∃ R', Sub R1 R' ∧ (∃ R0, A R0 ∧ Sub R0 R') ∧ Holds w (ro R' :: l) := by
  obtain ⟨h0, a, dd, hh⟩ := Holds.lend h
  exact ⟨un R1 h0, Sub.un_left _ _, ⟨h0, a, Sub.un_right dd⟩, hh⟩
theorem RS.one {R : HP} {sz m : Nat} {v : Value} {xs : List Value} (h : RS R sz v m xs) : v.oneCell' = true := by
  obtain ⟨a, cap, rfl, _⟩ := h.len
  rfl
theorem Holds.sl_one (h : Holds w l) (i : Nat) {T sz m : Nat} {v : Value} {xs : List Value} (hi : l[i]? = some (sl T sz v m xs)) : v.oneCell' = true := by
  obtain ⟨_, a, cap, rfl, _⟩ := h.sl_len i hi
  rfl
/-! ### A guard on what was not done -/
end
end Go.Proofs.Ytdfjdmmmlidamaa.Gw
set_option linter.unusedVariables false
set_option linter.unusedSimpArgs false
namespace Go.Proofs.Ytdfjdmmmlidamaa.Gw
open Go Go.RowKit Go.ChangeShapes Go.WideShapes Go.ChangeAt
section
variable {H : Type} {enc : TypeId × Value → H} {P : Program} {w : World} {base : Nat} {spare : Nat → Bool} {held : Bool} {t : TypeId} {fuel n : Nat} {cs : List Value} {c : Value}
def ReadsF (enc : TypeId × Value → H) (P : Program) (w : World) (base : Nat) (spare : Nat → Bool) (held : Bool) (fuel : Nat) (t : TypeId) (cs : List Value) : Prop := ∃ y, DataW.trod enc P w base spare held fuel t cs = some y
theorem ReadsF.reads (h : ReadsF enc P w base spare held fuel t cs) : Reads enc P w base spare held t cs := ⟨fuel, h⟩
theorem Reads.some_ (h : Reads enc P w base spare held t cs) : ∃ fuel, ReadsF enc P w base spare held fuel t cs := h
theorem ReadsF.zero (h : ReadsF enc P w base spare held 0 t cs) : False := by
  obtain ⟨y, h⟩ := h
  simp [DataW.trod] at h
theorem inv_structF {fs : Array Field} (hu : P.underlying t = some (.struct fs)) (h : ReadsF enc P w base spare held (fuel + 1) t cs) :
    cs.length = P.cellsOf t ∧ ∀ (i : Nat) (f : Field), fs[i]? = some f → ReadsF enc P w base spare held fuel f.type ((cs.drop f.offset).take (P.cellsOf f.type)) := by
  obtain ⟨y, h⟩ := h
  unfold DataW.trod at h
  rw [hu] at h
  dsimp only at h
  split at h
  · rename_i hl
    refine ⟨hl, fun i f hi => ?_⟩
    cases hm : (fs.toList.mapM fun f => DataW.trod enc P w base spare held fuel f.type ((cs.drop f.offset).take (P.cellsOf f.type))) with
    | none => rw [hm] at h; cases h
    | some r =>
      obtain ⟨y, hy⟩ := mapM_all hm f (by simpa using Array.mem_of_getElem? hi)
      exact ⟨y, hy⟩
  · cases h
theorem fld1F {fs : Array Field} (hf : ∀ (i : Nat) (f : Field), fs[i]? = some f → ReadsF enc P w base spare held fuel f.type ((cs.drop f.offset).take (P.cellsOf f.type))) (i : Nat) {f : Field} (hi : fs[i]? = some f)
    (hC : P.cellsOf f.type = 1) (hc : cs[f.offset]? = some c) : ReadsF enc P w base spare held fuel f.type [c] := by
  have := hf i f hi
  rw [hC] at this
  have e : (cs.drop f.offset).take 1 = [c] := by
    rw [List.take_one, List.head?_drop, hc]
    rfl
  rwa [e] at this
theorem inv_sliceF {e : TypeId} (hu : P.underlying t = some (.slice e)) (h : ReadsF enc P w base spare held (fuel + 1) t [c]) :
    c = .slice none 0 0 ∨ ∃ a len cap, c = .slice (some a) len cap ∧ len ≤ cap ∧ cap ≤ maxLen ∧ ∀ i, i < len → ∃ xs, w.cells? base (a.add (i * P.cellsOf e)) (P.cellsOf e) = some xs ∧ ReadsF enc P w base spare held fuel e xs := by
  obtain ⟨y, h⟩ := h
  unfold DataW.trod at h
  rw [hu] at h
  split at h
  all_goals (first | (rename_i h1 h2; cases h1; done) | (rename_i h1; cases h1; done) | (cases h; done) | skip)
  · rename_i h1 h2
    simp only [List.cons.injEq, and_true] at h2
    exact .inl h2
  · rename_i e' a len cap h1 h2
    simp only [Option.some.injEq, TypeDesc.slice.injEq] at h1
    subst h1
    simp only [List.cons.injEq, and_true] at h2
    subst h2
    refine .inr ⟨a, len, cap, rfl, ?_⟩
    dsimp only at h
    split at h
    · rename_i hb
      refine ⟨hb.2.1, hb.2.2, fun i hi => ?_⟩
      rw [Option.bind_eq_some_iff] at h
      obtain ⟨elems, he, _⟩ := h
      obtain ⟨z, hz⟩ := mapM_all he i (List.mem_range.2 hi)
      rw [Option.bind_eq_some_iff] at hz
      obtain ⟨xs, h3, h4⟩ := hz
      exact ⟨xs, h3, z, h4⟩
    · cases h
theorem mapM_idx {α : Type} {f : Nat → Option α} : ∀ {n : Nat} {r : List α}, (List.range n).mapM f = some r → ∀ (i : Nat) (u : α), r[i]? = some u → f i = some u := by
  have gen : ∀ (l : List Nat) (r : List α), l.mapM f = some r → ∀ (i : Nat) (u : α), r[i]? = some u → ∃ j, l[i]? = some j ∧ f j = some u := by
    intro l
    induction l with
    | nil =>
      intro r h i u hi
      rw [List.mapM_nil] at h
      cases h
      simp at hi
    | cons a l ih =>
      intro r h i u hi
      rw [List.mapM_cons] at h
      cases ha : f a with
      | none => rw [ha] at h; cases h
      | some b =>
        rw [ha] at h
        cases hl : l.mapM f with
        | none => rw [hl] at h; cases h
        | some bs =>
          rw [hl] at h
          cases h
          cases i with
          | zero => exact ⟨a, rfl, by simpa using ha.trans (by simpa using hi)⟩
          | succ i =>
            obtain ⟨j, h1, h2⟩ := ih bs hl i u (by simpa using hi)
            exact ⟨j, by simpa using h1, h2⟩
  intro n r h i u hi
  obtain ⟨j, h1, h2⟩ := gen _ _ h i u hi
  have hj := List.getElem?_eq_some_iff.1 h1
  obtain ⟨hl, he⟩ := hj
  simp at he
  subst he
  exact h2
theorem cell_block {a : Addr} {m : Nat} {u : Value} (h : w.cell? (a.add m) = some u) : ∃ cs T fr, hp w a.block = some (.cells cs T fr) ∧ cs[a.off + m]? = some u ∧ (m = 0 → a.spot = none) := by
  unfold World.cell? at h
  have hb : (a.add m).block = a.block := by unfold Addr.add; split <;> rfl
  have ho : (a.add m).off = a.off + m := by
    unfold Addr.add
    split
    · rename_i h0; subst h0; rfl
    · rfl
  rw [hb, ho] at h
  split at h
  · rename_i cs T fr he
    split at h
    · cases h
    · rename_i hs
      refine ⟨cs, T, fr, he, h, fun h0 => ?_⟩
      subst h0
      simp [Addr.add] at hs
      exact hs
  · cases h
theorem open_list {α : Type} (F : α → List Value) (PP : α → Prop) {e : TypeId} (hn : P.cellsOf e = n) (hpos : 0 < n) (hF : ∀ x, (F x).length = n) (hu : P.underlying t = some (.slice e))
    (hel : ∀ xs, ReadsF enc P w base spare held fuel e xs → ∃ x, xs = F x ∧ PP x) (h : ReadsF enc P w base spare held (fuel + 1) t [c]) :
    ∃ (a : Option Addr) (len cap : Nat) (l : List α), c = .slice a len cap ∧ RS (hp w) n c l.length (l.flatMap F) ∧ (∀ x ∈ l, PP x) ∧ l.length ≤ maxLen := by
  rcases inv_sliceF hu h with rfl | ⟨a, len, cap, rfl, h1, h2, h3⟩
  · exact ⟨none, 0, 0, [], rfl, RS.nil _ _, fun x hx => (by cases hx), Nat.zero_le _⟩
  · subst hn
    have hx : ∀ i : Fin len, ∃ x, w.cells? base (a.add (i * P.cellsOf e)) (P.cellsOf e) = some (F x) ∧ PP x := fun i => by
      obtain ⟨xs, e1, e2⟩ := h3 i i.2
      obtain ⟨x, rfl, hp⟩ := hel xs e2
      exact ⟨x, e1, hp⟩
    have hl : ∃ l : List α, l.length = len ∧ ∀ i x, l[i]? = some x → w.cells? base (a.add (i * P.cellsOf e)) (P.cellsOf e) = some (F x) ∧ PP x := by
      refine ⟨List.ofFn fun i : Fin len => Classical.choose (hx i), List.length_ofFn, fun i x hi => ?_⟩
      rw [List.getElem?_ofFn] at hi
      split at hi
      · rename_i hlt
        cases hi
        exact Classical.choose_spec (hx ⟨i, hlt⟩)
      · cases hi
    obtain ⟨l, rfl, hl⟩ := hl
    refine ⟨some a, l.length, cap, l, rfl, ⟨fm_len hF l, some a, cap, rfl, h1, fun hm => ?_⟩, fun x hx => ?_, Nat.le_trans h1 h2⟩
    · have key : ∀ k x, l[k]? = some x → ∀ i u, (F x)[i]? = some u → ∃ cs T fr, hp w a.block = some (.cells cs T fr) ∧ cs[a.off + (k * P.cellsOf e + i)]? = some u ∧ (k * P.cellsOf e + i = 0 → a.spot = none) := by
        intro k x hk i u hi
        have hc := (hl k x hk).1
        unfold World.cells? at hc
        split at hc
        · have hc := mapM_idx hc i u hi
          by_cases hi0 : i = 0
          · subst hi0
            have : (a.add (k * P.cellsOf e)).add 0 = a.add (k * P.cellsOf e + 0) := by simp [Addr.add]
            rw [this] at hc
            exact cell_block hc
          · have : (a.add (k * P.cellsOf e)).add i = a.add (k * P.cellsOf e + i) := by
              by_cases hk0 : k * P.cellsOf e = 0
              · rw [hk0]; simp [Addr.add]
              · simp [Addr.add, hi0, hk0, Nat.add_assoc]
            rw [this] at hc
            exact cell_block hc
        · cases hc
      obtain ⟨b, off, spot⟩ := a
      have h0 : spot = none := by
        obtain ⟨x, hx0, _⟩ := elem_at l 0 hm
        have hlen := hF x
        obtain ⟨cs, T, fr, _, _, e3⟩ := key 0 x hx0 0 _ (List.getElem?_eq_getElem (by omega))
        exact e3 (by simp)
      subst h0
      refine ⟨b, off, rfl, fun j u hj => ?_⟩
      have hjl : j < (l.flatMap F).length := (List.getElem?_eq_some_iff.1 hj).1
      rw [fm_len hF] at hjl
      have hk : j / P.cellsOf e < l.length := Nat.div_lt_of_lt_mul (by rwa [Nat.mul_comm] at hjl)
      obtain ⟨x, hkx, _⟩ := elem_at l _ hk
      have hi : j % P.cellsOf e < (F x).length := by rw [hF]; exact Nat.mod_lt _ hpos
      have hdm : j / P.cellsOf e * P.cellsOf e + j % P.cellsOf e = j := by rw [Nat.mul_comm]; exact Nat.div_add_mod _ _
      have e1 := fm_cell hF hkx (List.getElem?_eq_getElem hi)
      rw [hdm, hj] at e1
      obtain ⟨cs, T, fr, e2, e3, _⟩ := key _ x hkx _ _ (List.getElem?_eq_getElem hi)
      rw [hdm] at e3
      exact ⟨cs, T, fr, e2, by rw [e3, ← e1]⟩
    · obtain ⟨i, hi, rfl⟩ := List.getElem_of_mem hx
      exact (hl i _ (List.getElem?_eq_getElem hi)).2
end
end Go.Proofs.Ytdfjdmmmlidamaa.Gw
set_option linter.unusedVariables false
set_option linter.unusedSimpArgs false
namespace Go.Proofs.Ytdfjdmmmlidamaa.Gw
open Go Go.RowKit
section
variable {P : Program} {n : Nat} {e : Env} {w : World} {K : Value → World → Prop} {Q : Exit → Act → World → Prop} {ops : Array Oper} {rest : List Oper} {ds : List Deferred}
  {d : Option Nat} {ty : TypeId} {pos : String} {af : Array Edge} {g : Option (Nat × Bool)} {l : List SP}
def slc : Value → Nat → Nat → Nat → Value
  | .slice a _ c, l, h, sz => .slice (if c = l then a else a.map (·.add (l * sz))) (h - l) (c - l)
  | v, _, _, _ => v
theorem RS.slc {R : HP} {sz m l h : Nat} {v : Value} {xs : List Value} (hr : RS R sz v m xs) (h1 : l ≤ h) (h2 : h ≤ m) : RS R sz (Gw.slc v l h sz) (h - l) ((xs.drop (l * sz)).take ((h - l) * sz)) := by
  obtain ⟨e1, a, cap, rfl, e2, e3⟩ := hr
  have hm : h * sz ≤ m * sz := Nat.mul_le_mul_right _ h2
  have hs : (h - l) * sz = h * sz - l * sz := Nat.sub_mul ..
  refine ⟨by rw [List.length_take, List.length_drop, e1]; omega, _, _, rfl, by omega, fun hp => ?_⟩
  obtain ⟨b, off, rfl, rc⟩ := e3 (by omega)
  refine ⟨b, off + l * sz, ?_, (rc.drop _).take _⟩
  rw [if_neg (by omega)]
  simp [add_mk]
theorem x_sliceRS {R : HP} {t el : TypeId} {x : Operand} {lo hi : Option Operand} {v : Value} {sz sz' m bb l h : Nat} {xs : List Value} {z : Option Value} (hx : ev n e x = v) (hr : RS R sz' v m xs) (hu : P.underlying t = some (.slice el))
    (hz : tin P el = some (sz, bb, z)) (hm : h ≤ m) (hh : (match hi.map (ev n e) with | none => h = m | some v => ∃ k i, v = .int k i ∧ 0 ≤ i ∧ i ≤ m ∧ i.toNat = h))
    (hl : (match lo.map (ev n e) with | none => l = 0 | some v => ∃ k i, v = .int k i ∧ 0 ≤ i ∧ i ≤ h ∧ i.toNat = l)) :
    (execOp (ev n e) ⟨d, .slice t x lo hi none, ty, pos, af, g⟩).run P w = .ok (.value (Gw.slc v l h sz)) w := by
  obtain ⟨a, cap, rfl, hc⟩ := hr.len
  refine x_slice hx hu hz ?_ hl rfl
  cases hi with
  | none => exact hh
  | some o =>
    obtain ⟨k, i, e1, e2, e3, e4⟩ := hh
    exact ⟨k, i, e1, e2, by omega, e4⟩
theorem wrap_nat {a : Int} {x : Nat} (ha : a = x) (hx : x < 9223372036854775808) : IntKind.wrap .i64 a = a := wrap_i64 (by omega) (by omega)
theorem ib_quoN {a b : Int} {x y r : Nat} (ha : a = x) (hb : b = y) (hy : 0 < y) (hx : x < 9223372036854775808) (hr : x / y = r) : ibin .quo .i64 a b = some (.int .i64 r) := by
  subst ha; subst hb; subst hr
  have h0 : ((y : Int) = 0) = False := by simp; omega
  have e : (x : Int).tdiv y = ((x / y : Nat) : Int) := rfl
  have hlt : x / y < 9223372036854775808 := Nat.lt_of_le_of_lt (Nat.div_le_self _ _) hx
  simp only [ibin, h0, if_false, e]
  rw [wrap_nat rfl hlt]
end
end Go.Proofs.Ytdfjdmmmlidamaa.Gw
set_option linter.unusedVariables false
set_option linter.unusedSimpArgs false
set_option linter.unusedSectionVars false
namespace Go.Proofs.Ytdfjdmmmlidamaa.Gw
open Go Go.RowKit
theorem lcons {α : Type} {a b : α} {l m : List α} (h : a = b) (k : l = m) : a :: l = b :: m := by subst h; subst k; rfl
theorem map_at {α β : Type} {f : α → β} {l : List α} {k : Nat} {x : α} (h : l[k]? = some x) : (l.map f)[k]? = some (f x) := by simp [h]
theorem cl_RSn {b T k sz cap : Nat} {xs : List Value} {h R : HP} (a : cl b T xs h) (hs : Sub h R) (hl : xs.length = k * sz) (hc : k ≤ cap) : RS R sz (.slice (some ⟨b, 0, none⟩) k cap) k xs :=
  ⟨hl, _, _, rfl, hc, fun _ => ⟨b, 0, rfl, cl_RC a hs⟩⟩
/-! ### Pieces made of pieces -/
def grp (l : List SP) : SP := fun h => Sat l h
theorem Holds.ungrp {w : World} {l m : List SP} (h : Holds w (grp l :: m)) : Holds w (l ++ m) := by
  obtain ⟨h1, k, s, t, d, a, r⟩ := h
  exact Sat.append.2 ⟨h1, k, s, t, d, a, r⟩
theorem Holds.grp {w : World} {l m : List SP} (h : Holds w (l ++ m)) : Holds w (Gw.grp l :: m) := by
  obtain ⟨h1, k, s, t, d, a, r⟩ := Sat.append.1 h
  exact ⟨h1, k, s, t, d, a, r⟩
/-! ### A map of one's own: its keys are 'K a', for things a that can be told apart -/
section
variable {α : Type} [DecidableEq α]
def Born (es : List MapEntry) (clock : Nat) : Prop := (∀ e ∈ es, e.born < clock) ∧ es.Pairwise fun a b => a.born ≠ b.born
def mp (K : α → Value) (b : Nat) (m : List (α × Value)) : SP := fun h => ∃ es clock, h b = some (.map es clock) ∧ es.toList.map (fun e => (e.key, e.val)) = m.map (fun p => (K p.1, p.2)) ∧ Born es.toList clock
structure KeyKind (P : Program) (k : TypeId) (K : α → Value) : Prop where
  inj : ∀ a b, K a = K b → a = b
  check : ∀ (w : World) (em : Bool) a, (Instr.checkKey em 10000 k (K a)).run P w = .ok () w
  find : ∀ (w : World) a (es : List MapEntry) (m : List α), es.map (·.key) = m.map K →
    (Instr.findKey k (K a) es).run P w = .ok ((m.findIdx? (· = a)).bind fun i => (es[i]?).map fun e => (i, e.val)) w
  stays : ∀ (w : World) a, (Instr.keyThatStays (K a) (K a)).run P w = .ok (K a) w
variable {P : Program} {w : World} {l : List SP} {n : Nat} {e : Env} {K' : Value → World → Prop} {d : Option Nat} {ty : TypeId} {pos : String} {af : Array Edge} {g : Option (Nat × Bool)}
theorem findNow_kind {D : TypeDesc} {K : α → Value} (hs : ∀ a b, Instr.sameNow D (K a) (K b) = some (decide (a = b))) (a : α) : ∀ (es : List MapEntry) (m : List α) (i : Nat), es.map (·.key) = m.map K →
    Instr.findNow D (K a) es i = some ((m.findIdx? (· = a)).bind fun j => (es[j]?).map fun e => (i + j, e.val))
  | [], [], i, _ => by simp [Instr.findNow]
  | [], _ :: _, i, h => by simp at h
  | _ :: _, [], i, h => by simp at h
  | e :: es, x :: m, i, h => by
    simp only [List.map_cons, List.cons.injEq] at h
    have ih := findNow_kind hs a es m (i + 1) h.2
    unfold Instr.findNow
    rw [h.1, hs]
    by_cases hx : x = a
    · subst hx
      simp [List.findIdx?_cons]
    · have hx' : ¬ a = x := fun e => hx e.symm
      simp only [hx', decide_false, List.findIdx?_cons, hx]
      rw [ih]
      cases hm : List.findIdx? (fun x => decide (x = a)) m with
      | none => simp
      | some j => simp [Nat.add_assoc, Nat.add_comm 1 j]
theorem sameBits_int (q : IntKind) (a : Int) (n : Nat) : Instr.sameBits n (.int q a) (.int q a) = true := by cases n <;> simp [Instr.sameBits]
theorem checkKey_int {k : TypeId} {q : IntKind} (hk : P.underlying k = some (.int q)) (em : Bool) (v : Value) (n : Nat) : (Instr.checkKey em (n + 1) k v).run P w = .ok () w := by simp [Instr.checkKey, run_underlying hk]
theorem KeyKind.int {k : TypeId} {q : IntKind} (hk : P.underlying k = some (.int q)) : KeyKind P k (Value.int q) where
  inj := fun a b h => by injection h
  check := fun w em a => checkKey_int hk em _ 9999
  find := fun w a es m h => by
    have := findNow_kind (D := .int q) (K := Value.int q) (fun a b => by simp only [Instr.sameNow, if_true]; rw [Bool.beq_eq_decide_eq]) a es m 0 h
    simp only [Instr.findKey, Sem.run_bind, run_underlying hk, Result.andThen_ok, this]
    simp
  stays := fun w a => by
    simp only [Instr.keyThatStays, sameBits_int, if_true]; rfl
theorem Born.same {es es' : List MapEntry} {clock : Nat} (h : Born es clock) (e : es'.map (·.born) = es.map (·.born)) : Born es' clock := by
  refine ⟨fun x hx => ?_, ?_⟩
  · have : x.born ∈ es.map (·.born) := e ▸ List.mem_map_of_mem hx
    obtain ⟨y, hy, e2⟩ := List.mem_map.1 this
    rw [← e2]; exact h.1 y hy
  · have h2 : (es.map (·.born)).Pairwise (· ≠ ·) := List.pairwise_map.2 h.2
    rw [← e] at h2
    exact List.pairwise_map.1 h2
theorem Born.erase {es : List MapEntry} {clock : Nat} (h : Born es clock) (i : Nat) : Born (es.eraseIdx i) clock :=
  ⟨fun x hx => h.1 x (List.mem_of_mem_eraseIdx hx), h.2.sublist (List.eraseIdx_sublist es i)⟩
end
end Go.Proofs.Ytdfjdmmmlidamaa.Gw
set_option linter.unusedVariables false
set_option linter.unusedSimpArgs false
set_option linter.unusedSectionVars false
namespace Go.Proofs.Ytdfjdmmmlidamaa.Gw
open Go Go.RowKit
section
variable {P : Program} {n : Nat} {e : Env} {w : World} {K : Value → World → Prop} {d : Option Nat} {ty : TypeId} {pos : String} {af : Array Edge} {g : Option (Nat × Bool)} {l : List SP}
/-! ### Elements of a slice of one's own -/
theorem sl_cell {T sz m : Nat} {v : Value} {xs : List Value} (h : Holds w l) (j : Nat) (hj : l[j]? = some (sl T sz v m xs)) {k : Nat} {u : Value} (hk : xs[k]? = some u) : w.cell? ⟨sb v, so v + k, none⟩ = some u := by
  have hr := h.sl_RSw j hj
  have hlen := hr.1
  have hk' := (List.getElem?_eq_some_iff.1 hk).1
  have hm : 0 < m := by
    rcases Nat.eq_zero_or_pos m with h0 | h0
    · rw [h0, Nat.zero_mul] at hlen; omega
    · exact h0
  obtain ⟨b, off, cap, rfl, _, hc⟩ := hr.at_ hm
  exact hc.cell (Sub.rfl' _) hk
theorem T_storeSl {t T bb sz m k : Nat} {z : Option Value} {x y : Operand} {off : Nat} {b : Nat} {v u : Value} {xs : List Value} (hx : ev n e x = .pointer (some ⟨b, off, none⟩)) (hy : ev n e y = u) (hz : tin P t = some (1, bb, z))
    (hv : u.oneCell' = true) (h : Holds w l) (i : Nat) (hi : l[i]? = some (sl T sz v m xs)) (hk : k < xs.length) (hb : b = sb v) (ho : off = so v + k) (c : ∀ w', Same w w' → Holds w' (l.set i (sl T sz v m (xs.set k u))) → K undef w') :
    Stp P n e ⟨d, .store t x y, ty, pos, af, g⟩ w K := by
  subst hb; subst ho
  have hlen : xs.length = m * sz := (h.sl_RSw i hi).1
  have hm : 0 < m := by
    rcases Nat.eq_zero_or_pos m with h0 | h0
    · rw [h0, Nat.zero_mul] at hlen; omega
    · exact h0
  obtain ⟨b', pr, sp, cap, hve, e2, e3, e4, hh⟩ := h.sl_open i hi hm
  have es : sb v = b' := by rw [hve]; rfl
  have eo : so v = pr.length := by rw [hve]; rfl
  have hil : i < l.length := (List.getElem?_eq_some_iff.1 hi).1
  rw [es, eo] at hx
  refine T_store1 hx hy hz hv hh i (T := T) (cs := pr ++ xs ++ sp) (by simp [hil]) (by simp; omega) fun w' s h' => c w' s ?_
  have hset : (pr ++ xs ++ sp).set (pr.length + k) u = pr ++ xs.set k u ++ sp := by
    rw [List.append_assoc, List.set_append_right _ _ (by omega), Nat.add_sub_cancel_left, List.set_append_left _ _ hk, List.append_assoc]
  rw [hset] at h'
  have := Holds.to_sl (b := b') h' i pr sp (xs := xs.set k u) (T := T) (sz := sz) (m := m) (cap := cap) (by simp [hil]) (by simpa using e2) e3 e4
  rw [← hve] at this
  simpa using this
theorem Holds.sl_trunc {T sz m k : Nat} {v : Value} {xs : List Value} (h : Holds w l) (i : Nat) (hi : l[i]? = some (sl T sz v m xs)) (hk : k ≤ m) : Holds w (l.set i (sl T sz (slc v 0 k sz) k (xs.take (k * sz)))) := by
  refine h.map_at i hi fun h' a => ?_
  rcases a with ⟨rfl, rfl, rfl⟩ | ⟨b, pr, sp, cap, rfl, e2, e3, e4, c⟩
  · obtain rfl : k = 0 := by omega
    exact .inl ⟨rfl, rfl, by simp⟩
  · refine .inr ⟨b, pr, xs.drop (k * sz) ++ sp, cap, ?_, ?_, ?_, by omega, ?_⟩
    · simp only [slc]
      by_cases hc : cap = 0
      · subst hc; simp
      · rw [if_neg hc]; simp [Addr.add]
    · rw [List.length_take, e2]
      have := Nat.mul_le_mul_right sz hk
      omega
    · rw [List.length_append, List.length_drop, e2, e3]
      have h1 := Nat.mul_le_mul_right sz hk
      have h2 : (cap - m) * sz = cap * sz - m * sz := Nat.sub_mul ..
      have h3 : (cap - k) * sz = cap * sz - k * sz := Nat.sub_mul ..
      have h4 := Nat.mul_le_mul_right sz e4
      omega
    · have : pr ++ xs.take (k * sz) ++ (xs.drop (k * sz) ++ sp) = pr ++ xs ++ sp := by
        rw [List.append_assoc, List.append_assoc, ← List.append_assoc (List.take _ _), List.take_append_drop]
      rw [this]; exact c
/-! ### A family of blocks of one type -/
theorem Holds.ro_less {R R' : HP} (h : Holds w (ro R' :: l)) (s : Sub R R') : Holds w (ro R :: l) := Sat.head_map (fun _ a => Sub.trans' s a) h
section
variable {H : Type} {enc : TypeId × Value → H} {base : Nat} {spare : Nat → Bool} {held : Bool} {fuel : Nat} {t : TypeId} {xs : List Value}
end
/-! ### What stays readable -/
def SlRd (v : Value) (xs : List Value) (w : World) : Prop := ∀ (k : Nat) (u : Value), xs[k]? = some u → w.cell? ⟨sb v, so v + k, none⟩ = some u
theorem Holds.slrd {T sz m : Nat} {v : Value} {xs : List Value} (h : Holds w l) (j : Nat) (hj : l[j]? = some (sl T sz v m xs)) : SlRd v xs w := fun _ _ hk => sl_cell h j hj hk
theorem SlRd.cells {v : Value} {xs : List Value} (h : SlRd v xs w) (j : Nat) {vs : List Value} (hv : (xs.drop j).take vs.length = vs) : ∀ i u, vs[i]? = some u → w.cell? ((Addr.mk (sb v) (so v + j) none).add i) = some u := by
  intro i u hi
  rw [add_mk, Nat.add_assoc]
  refine h _ _ ?_
  rw [← hv] at hi
  rw [List.getElem?_take] at hi
  split at hi
  · rw [List.getElem?_drop] at hi; exact hi
  · cases hi
theorem x_idxSlR {R : HP} {t el : TypeId} {x y : Operand} {m i sz bb : Nat} {v : Value} {xs : List Value} {z : Option Value} {k' : IntKind} {p : Addr} {ii : Int} (hx : ev n e x = v) (h : RS R sz v m xs) (hy : ev n e y = .int k' ii)
    (hu : P.underlying t = some (.slice el)) (hz : tin P el = some (sz, bb, z)) (h0 : 0 ≤ ii) (hi : ii < m) (hn : ii.toNat = i) (hp : (⟨sb v, so v + i * sz, none⟩ : Addr) = p) :
    (execOp (ev n e) ⟨d, .indexAddr t x y, ty, pos, af, g⟩).run P w = .ok (.value (.pointer (some p))) w := x_idxRS hx h hy hu hz h0 hi hn hp
/-! ### A method of what a pointer points to -/
end
end Go.Proofs.Ytdfjdmmmlidamaa.Gw
set_option linter.unusedVariables false
set_option linter.unusedSimpArgs false
namespace Go.Proofs.Ytdfjdmmmlidamaa.Gw
open Go Go.RowKit
section
variable {P : Program} {n : Nat} {e : Env} {w : World} {K : Value → World → Prop} {Q : Exit → Act → World → Prop} {ops : Array Oper} {rest : List Oper} {ds : List Deferred}
  {d : Option Nat} {ty : TypeId} {pos : String} {af : Array Edge} {g : Option (Nat × Bool)} {l : List SP}
end
end Go.Proofs.Ytdfjdmmmlidamaa.Gw
set_option linter.unusedVariables false
set_option linter.unusedSimpArgs false
set_option linter.unusedSectionVars false
namespace Go.Proofs.Ytdfjdmmmlidamaa.Gw
open Go Go.RowKit
section
variable {P : Program} {n : Nat} {e : Env} {w : World} {K : Value → World → Prop} {Q : Exit → Act → World → Prop} {d : Option Nat} {ty : TypeId} {pos : String} {af : Array Edge} {g : Option (Nat × Bool)} {l : List SP} {ds : List Deferred}
theorem shrN {x q : Int} {m : Nat} (h : (2 : Int) ^ m = q) (hq : 0 ≤ q) : x.fdiv (2 ^ m) = x / q := by rw [h, Int.fdiv_eq_ediv_of_nonneg _ hq]
def Byt (ns : List Int) : Prop := ∀ b ∈ ns, 0 ≤ b ∧ b < 256
theorem Byt.nil : Byt [] := fun b h => by cases h
theorem Byt.cons {a : Int} {b : List Int} (h : 0 ≤ a ∧ a < 256) (k : Byt b) : Byt (a :: b) := fun x hx => (List.mem_cons.1 hx).elim (fun e => e ▸ h) (k x)
theorem Byt.left {a b : List Int} (h : Byt (a ++ b)) : Byt a := fun x hx => h x (List.mem_append_left _ hx)
/-! ### Regions whose order is open: shorter words -/
theorem A_tk {lo : List Oper} {S : World → Prop} {fuel : Nat} {ls : Array Bool} {Q : Exit → Act → World → Prop} (i : Nat) {dd : Nat} {op : Op} {v : Value} (hi : lo[i]? = some ⟨some dd, op, ty, pos, af, none⟩)
    (hc : (Region.noSelect lo.toArray && Region.free .any lo.toArray ls i && (Region.ready .any lo.toArray ls).contains i) = true)
    (hy : ∀ w, S w → (execOp (ev n e) ⟨some dd, op, ty, pos, af, none⟩).run P w = .ok (.value v) w) (hS : S w) (h : wpAnyH P .any lo.toArray Q S fuel (ls.setIfInBounds i true) (mkA n (upd e dd v) ds) w)
    (hQ : ∀ c a w, Q (.panic c) (a.put (some dd) v) w → Q (.panic c) a w := by exact fun _ _ _ h => h) :
    wpAnyH P .any lo.toArray Q S (fuel + 1) ls (mkA n e ds) w := by
  simp only [Bool.and_eq_true] at hc
  exact A_take i hi hc.1.1 hc.1.2 hc.2 rfl hQ hy hS h
theorem A_tkY {lo : List Oper} {S : World → Prop} {fuel : Nat} {ls : Array Bool} {Q : Exit → Act → World → Prop} (i : Nat) {dd j dj : Nat} {b : Bool} {op : Op} {v : Value} (hi : lo[i]? = some ⟨some dd, op, ty, pos, af, some (j, b)⟩)
    (hc : (Region.noSelect lo.toArray && Region.free .any lo.toArray ls i && (Region.ready .any lo.toArray ls).contains i) = true) (hj : (lo[j]?).bind (·.dst) = some dj) (hn : Nat.blt dj n = true) (hb : e dj = .bool b)
    (hy : ∀ w, S w → (execOp (ev n e) ⟨some dd, op, ty, pos, af, some (j, b)⟩).run P w = .ok (.value v) w) (hS : S w) (h : wpAnyH P .any lo.toArray Q S fuel (ls.setIfInBounds i true) (mkA n (upd e dd v) ds) w)
    (hQ : ∀ c a w, Q (.panic c) (a.put (some dd) v) w → Q (.panic c) a w := by exact fun _ _ _ h => h) :
    wpAnyH P .any lo.toArray Q S (fuel + 1) ls (mkA n e ds) w := by
  simp only [Bool.and_eq_true] at hc
  exact A_takeYes i hi hc.1.1 hc.1.2 hc.2 rfl hQ hj hn hb hy hS h
theorem A_tkN {lo : List Oper} {S : World → Prop} {fuel : Nat} {ls : Array Bool} {Q : Exit → Act → World → Prop} (i : Nat) {dd j dj : Nat} {b c : Bool} {op : Op} (hi : lo[i]? = some ⟨some dd, op, ty, pos, af, some (j, c)⟩)
    (hc : (Region.noSelect lo.toArray && Region.free .any lo.toArray ls i && (Region.ready .any lo.toArray ls).contains i) = true) (hj : (lo[j]?).bind (·.dst) = some dj) (hn : Nat.blt dj n = true) (hb : e dj = .bool b) (hbc : b ≠ c) (hS : S w)
    (h : wpAnyH P .any lo.toArray Q S fuel (ls.setIfInBounds i true) (mkA n (upd e dd undef) ds) w)
    (hQ : ∀ c a w, Q (.panic c) (a.put (some dd) undef) w → Q (.panic c) a w := by exact fun _ _ _ h => h) :
    wpAnyH P .any lo.toArray Q S (fuel + 1) ls (mkA n e ds) w := by
  simp only [Bool.and_eq_true] at hc
  exact A_takeNo i hi hc.1.1 hc.1.2 hc.2 rfl hQ hj hn hb hbc hS h
/-! ### Deferred calls of functions that do nothing -/
end
end Go.Proofs.Ytdfjdmmmlidamaa.Gw
set_option linter.unusedVariables false
set_option linter.unusedSimpArgs false
set_option linter.unusedSectionVars false
namespace Go.Proofs.Ytdfjdmmmlidamaa.Gw
open Go Go.RowKit
section
variable {P : Program} {n : Nat} {e : Env} {w : World}
theorem x_fieldAddr0 {d : Option Nat} {ty : TypeId} {pos : String} {af : Array Edge} {g : Option (Nat × Bool)} {l : List SP} {s T f b bb : Nat} {x : Operand} {fs : Array Field} {fd : Field} {z : Option Value} {cs : List Value} (hx : ev n e x = .pointer (some ⟨b, 0, none⟩))
    (hu : P.underlying s = some (.struct fs)) (hf : fs[f]? = some fd) (hz : tin P fd.type = some (0, bb, z)) (ho : fd.offset = 0) (hby : fd.byteOffset = 0) (h : Holds w l) (i : Nat) (hi : l[i]? = some (cl b T cs)) (hc : byteOfCell P P.depth T 0 = some 0) :
    (execOp (ev n e) ⟨d, .fieldAddr s x f, ty, pos, af, g⟩).run P w = .ok (.value (.pointer (some ⟨b, 0, none⟩))) w := by
  obtain ⟨fr, eb, _⟩ := h.cl_block i hi
  have hs : w.shape? b = some (T, cs.toArray.size) := by simp [World.shape?, eb]
  have hb : (byteOf ⟨b, 0, none⟩).run P w = .ok 0 w := by
    have hv : (viewAt b).run P w = .ok none w := by simp [viewAt, shape, Sem.run_bind, Sem.run, hs]
    by_cases h0 : P.cellsOf T = 0
    · simp [byteOf, noView, Sem.run_bind, program, Sem.run, shape, hs, hv, h0]
    · simp [byteOf, noView, Sem.run_bind, program, Sem.run, shape, hs, hv, h0, hc]
  simp only [execOp]
  rw [hx]
  refine run_v _ ?_
  simp only [Instr.fieldAt, Sem.run_bind, run_underlying hu, Result.andThen_ok, hf, Instr.sureAddr, Sem.run_pure, fieldPlace, run_sizeOf hz]
  simp [partAt, ho, hby, hb, Sem.run_bind]
end
end Go.Proofs.Ytdfjdmmmlidamaa.Gw
set_option linter.unusedVariables false
set_option linter.unusedSimpArgs false
set_option linter.unusedSectionVars false
namespace Go.Proofs.Ytdfjdmmmlidamaa.Gw
open Go Go.RowKit
section
variable {P : Program} {n : Nat} {e : Env} {w : World} {K : Value → World → Prop} {Q : Exit → Act → World → Prop} {d : Option Nat} {ty : TypeId} {pos : String} {af : Array Edge} {g : Option (Nat × Bool)} {l : List SP} {ds : List Deferred}
theorem run_copy_k (w : World) (dT sT ty elem : TypeId) (b o dLen dCap : Nat) (a : Addr) (sLen sCap sz : Nat) (cs : List Value)
    (hu : P.underlying dT = some (.slice elem)) (hs : (P.info? elem).map (·.size) = some sz) (hn : cs.length = Nat.min sLen dLen * sz)
    (hsrc : ∀ j v, cs[j]? = some v → w.cell? (a.add j) = some v) (hc : ∀ j, j < cs.length → (w.cell? ⟨b, o + j, none⟩).isSome = true) (hf : ∀ j, j < cs.length → w.frozen? ⟨b, o + j, none⟩ = false) (h1 : ∀ v ∈ cs, v.oneCell' = true) :
    (Builtin.copy_ #[dT, sT] ty #[.slice (some ⟨b, o, none⟩) dLen dCap, .slice (some a) sLen sCap]).run P w = .ok (goInt (Nat.min sLen dLen)) (w.setCells b o cs) := by
  have hl := run_loadCells_list (P := P) w a cs hsrc
  have hst := run_storeCells_cells (P := P) b o cs 0 w (by simpa using hc) (by simpa using hf) h1
  cases hq : P.info? elem with
  | none => simp [hq] at hs
  | some i =>
    have hi : i.size = sz := by simpa [hq] using hs
    simp [Builtin.copy_, run_underlying hu, Builtin.lenOf, Builtin.firstCells, sizeOf, typeInfo, hq, hi, ← hn, hl, hst]
theorem T_copyK {dT sT el sz T b off dLen dCap sb so sLen sCap k bb : Nat} {z : Option Value} {o1 o2 : Operand} {ys cs : List Value} (h1 : ev n e o1 = .slice (some ⟨b, off, none⟩) dLen dCap) (h2 : ev n e o2 = .slice (some ⟨sb, so, none⟩) sLen sCap)
    (hu : P.underlying dT = some (.slice el)) (hz : tin P el = some (sz, bb, z)) (h : Holds w l) (i : Nat) (hi : l[i]? = some (cl b T cs)) (hk : Nat.min sLen dLen = k) (hys : ys.length = k * sz)
    (hsrc : ∀ j v, ys[j]? = some v → w.cell? ⟨sb, so + j, none⟩ = some v) (hoff : off + ys.length ≤ cs.length)
    (one : ∀ u ∈ ys, u.oneCell' = true) (kk : ∀ w', Same w w' → Holds w' (l.set i (cl b T (cs.take off ++ ys ++ cs.drop (off + ys.length)))) → K (.int .i64 k) w') :
    Stp P n e ⟨d, .call { callee := .builtin .copy, args := #[o1, o2], argTypes := #[dT, sT] }, ty, pos, af, g⟩ w K := by
  have hsz : (P.info? el).map (·.size) = some sz := by
    obtain ⟨ti, hti, e1, _⟩ := tin_info hz
    rw [hti]; simp [e1]
  subst hk
  have hr := run_copy_k (P := P) w dT sT ty el b off dLen dCap ⟨sb, so, none⟩ sLen sCap sz ys hu hsz hys (fun j v hj => by rw [add_mk]; exact hsrc j v hj)
      (fun j hj => by rw [h.cl_cell i hi (List.getElem?_eq_getElem (by omega : off + j < cs.length))]; rfl) (fun j hj => h.cl_frozen i hi (by omega)) one
  rw [setCells_eq] at hr
  refine .inl ⟨_, setCells w b off ys, ?_, kk _ (Same.setCells b ys _ w) (Holds.setCells i ys off w l cs h hi hoff)⟩
  simp only [execOp, resolve, Sem.run_bind, Sem.run_pure, Result.andThen_ok, invoke, builtin]
  simp [h1, h2, hr, goInt]
def clf (b : Nat) (T : TypeId) (cs : List Value) : SP := fun h => h b = some (.cells cs.toArray T (0, 0))
end
end Go.Proofs.Ytdfjdmmmlidamaa.Gw
set_option linter.unusedVariables false
set_option linter.unusedSimpArgs false
set_option linter.unusedSectionVars false
namespace Go.Proofs.Ytdfjdmmmlidamaa.Gw
open Go Go.RowKit
section
variable {P : Program} {n : Nat} {e : Env} {w : World} {K : Value → World → Prop} {Q : Exit → Act → World → Prop} {d : Option Nat} {ty : TypeId} {pos : String} {af : Array Edge} {g : Option (Nat × Bool)} {l : List SP} {ds : List Deferred}
def TriG (P : Program) (f : FuncId) (args : Array Value) (R : HP) (pre : List SP) (Q : HP → Value → List SP → Prop) : Prop :=
  ∀ (w : World) (F : List SP), Holds w (ro R :: (pre ++ F)) →
    Calls P f args w fun e w' => ∃ R' v post, e = .returned v ∧ Sub R R' ∧ Q R' v post ∧ Same w w' ∧ Holds w' (ro R' :: (post ++ F))
theorem TriG.into {f : FuncId} {fn : Func} {c : Code} {args : Array Value} {al : List Value} {R : HP} {pre : List SP} {Qc : HP → Value → List SP → Prop} (hf : P.funcs[f]? = some fn) (hb : fn.body = some c) (hn : fn.ntmps = n)
    (ha : args = al.toArray) (hl : Nat.ble al.length n = true)
    (h : ∀ w F, Holds w (ro R :: (pre ++ F)) → c.wp P (bodyPost P fn fun r w' => ∃ R' v post, r = .returned v ∧ Sub R R' ∧ Qc R' v post ∧ Same w w' ∧ Holds w' (ro R' :: (post ++ F))) (mkA n (fun t => al.getD t undef) []) w) :
    TriG P f args R pre Qc := fun w F hh => Calls.into hf hb hn ha hl (h w F hh)
theorem T_callG {f : FuncId} {x : Operand} {lo : List Operand} {cl al : List Value} {at_ : Array TypeId} {R : HP} {pre F : List SP} {Qc : HP → Value → List SP → Prop}
    (hx : ev n e x = .func (.func f) #[] cl.toArray) (ha : lo.map (ev n e) ++ cl = al) (hc : callable P f = true) (ht : TriG P f al.toArray R pre Qc) (h : Holds w (ro R :: (pre ++ F)))
    (k : ∀ R' v post w', Sub R R' → Qc R' v post → Same w w' → Holds w' (ro R' :: (post ++ F)) → K v w') : Stp P n e ⟨d, .call { callee := .value x, args := lo.toArray, argTypes := at_ }, ty, pos, af, g⟩ w K :=
  T_callW hx ha hc ((ht w F h).mono fun r w' ⟨R', v, post, er, hs, q, s, hh⟩ => ⟨v, er, k R' v post w' hs q s hh⟩)
end
end Go.Proofs.Ytdfjdmmmlidamaa.Gw
set_option linter.unusedVariables false
set_option linter.unusedSimpArgs false
set_option linter.unusedSectionVars false
namespace Go.Proofs.Ytdfjdmmmlidamaa.Gw
open Go Go.RowKit
section
variable {P : Program} {n : Nat} {e : Env} {w : World}
end
end Go.Proofs.Ytdfjdmmmlidamaa.Gw
set_option linter.unusedVariables false
set_option linter.unusedSimpArgs false
set_option linter.unusedSectionVars false
namespace Go.Proofs.Ytdfjdmmmlidamaa.Gw
open Go Go.RowKit
section
variable {α : Type} [DecidableEq α] {m : List (α × Value)}
end
section
variable {P : Program} {n : Nat} {e : Env} {w : World} {K : Value → World → Prop} {d : Option Nat} {ty : TypeId} {pos : String} {af : Array Edge} {g : Option (Nat × Bool)} {l : List SP}
theorem T_storeSlN {t T bb sz m k s : Nat} {z : Option Value} {x y : Operand} {off : Nat} {b : Nat} {v : Value} {vs xs : List Value} (hx : ev n e x = .pointer (some ⟨b, off, none⟩)) (hy : ev n e y = .agg vs.toArray) (hz : tin P t = some (s, bb, z))
    (hs : vs.length = s) (hv : ∀ u ∈ vs, u.oneCell' = true) (h : Holds w l) (i : Nat) (hi : l[i]? = some (sl T sz v m xs)) (hk : k + vs.length ≤ xs.length) (hs0 : 0 < vs.length) (hb : b = sb v) (ho : off = so v + k)
    (c : ∀ w', Same w w' → Holds w' (l.set i (sl T sz v m (xs.take k ++ vs ++ xs.drop (k + vs.length)))) → K undef w') :
    Stp P n e ⟨d, .store t x y, ty, pos, af, g⟩ w K := by
  subst hb; subst ho
  have hlen : xs.length = m * sz := (h.sl_RSw i hi).1
  have hm : 0 < m := by
    rcases Nat.eq_zero_or_pos m with h0 | h0
    · rw [h0, Nat.zero_mul] at hlen; omega
    · exact h0
  obtain ⟨b', pr, sp, cap, hve, e2, e3, e4, hh⟩ := h.sl_open i hi hm
  have es : sb v = b' := by rw [hve]; rfl
  have eo : so v = pr.length := by rw [hve]; rfl
  have hil : i < l.length := (List.getElem?_eq_some_iff.1 hi).1
  rw [es, eo] at hx
  refine T_storeN hx hy hz hs hv hh i (T := T) (cs := pr ++ xs ++ sp) (by simp [hil]) (by simp; omega) fun w' s' h' => c w' s' ?_
  have hset : List.take (pr.length + k) (pr ++ xs ++ sp) ++ vs ++ List.drop (pr.length + k + vs.length) (pr ++ xs ++ sp) = pr ++ (xs.take k ++ vs ++ xs.drop (k + vs.length)) ++ sp := by
    have h1 : List.take (pr.length + k) (pr ++ xs ++ sp) = pr ++ xs.take k := by
      rw [List.append_assoc, List.take_append, List.take_of_length_le (by omega), show pr.length + k - pr.length = k by omega, List.take_append_of_le_length (by omega)]
    have h2 : List.drop (pr.length + k + vs.length) (pr ++ xs ++ sp) = xs.drop (k + vs.length) ++ sp := by
      rw [List.append_assoc, List.drop_append, List.drop_eq_nil_of_le (by omega), show pr.length + k + vs.length - pr.length = k + vs.length by omega, List.nil_append, List.drop_append_of_le_length (by omega)]
    rw [h1, h2]; simp [List.append_assoc]
  rw [hset, List.set_set] at h'
  have := Holds.map_at (B := sl T sz v m (xs.take k ++ vs ++ xs.drop (k + vs.length))) h' i (by simp [hil]) fun h'' a =>
    .inr ⟨b', pr, sp, cap, hve, by simp only [List.length_append, List.length_take, List.length_drop]; omega, e3, e4, a⟩
  rwa [List.set_set] at this
end
end Go.Proofs.Ytdfjdmmmlidamaa.Gw
set_option linter.unusedVariables false
set_option linter.unusedSimpArgs false
namespace Go.Proofs.Ytdfjdmmmlidamaa.Gw
open Go Go.RowKit
section
variable {P : Program} {n : Nat} {e : Env} {w : World} {l : List SP} {K : Value → World → Prop} {d : Option Nat} {ty : TypeId} {pos : String} {af : Array Edge} {g : Option (Nat × Bool)}
theorem Holds.mark {w : World} {l : List SP} (h : Holds w l) (i : Nat) {b T : Nat} {cs : List Value} (hi : l[i]? = some (clf b T cs)) :
    w.shape? b = some (T, cs.length) ∧ Holds (w.freeze ⟨b, cs.length, none⟩ 1) (l.set i (cl b T cs)) := by
  have he : w.heap[b]? = some (.cells cs.toArray T (0, 0)) := by
    obtain ⟨h1, k, s, t, d, e, r⟩ := Sat.bring i hi h
    exact s _ _ e
  refine ⟨by simp [World.shape?, he], ?_⟩
  have hw : hp (w.freeze ⟨b, cs.length, none⟩ 1) = upb (hp w) b (.cells cs.toArray T (cs.length, cs.length + 1)) := by
    refine hp_setBlock _ _ _ _ ?_ (fun c hc => ?_)
    · unfold World.freeze
      rw [if_neg (by decide)]
      simp only [Array.getElem?_modify, if_true, he, Option.map_some]
      rfl
    · unfold World.freeze
      rw [if_neg (by decide)]
      simp only [Array.getElem?_modify, if_neg (Ne.symm hc)]
  unfold Holds
  rw [hw]
  refine Sat.upb_at i hi h (fun h e' => ⟨_, e'⟩) fun h _ => ⟨(cs.length, cs.length + 1), by simp [upb], ?_⟩
  intro j hj ⟨h1, _⟩
  exact absurd h1 (Nat.not_le.2 hj)
theorem Holds.resl (h : Holds w l) (i : Nat) {T sz m m' : Nat} {v : Value} {xs xs' : List Value} (hi : l[i]? = some (sl T sz v m xs)) (hx : xs = xs') (hm : m = m') : Holds w (l.set i (sl T sz v m' xs')) := by
  subst hx; subst hm
  exact h.map_at i hi fun _ a => a
theorem Holds.recl (h : Holds w l) (i : Nat) {b T : Nat} {cs cs' : List Value} (hi : l[i]? = some (cl b T cs)) (hc : cs = cs') : Holds w (l.set i (cl b T cs')) := by
  subst hc
  exact h.map_at i hi fun _ a => a
def pk (n : Nat) : List SP → List Nat → List SP
  | l, [] => l.drop n
  | l, i :: r => match l[i]? with
    | some A => A :: pk n (l.eraseIdx i) r
    | none => []
theorem Sat.drop_ : ∀ (n : Nat) {l : List SP} {g : HP}, Sat l g → Sat (l.drop n) g
  | 0, _, _, h => h
  | _ + 1, [], _, h => h
  | n + 1, _ :: _, _, h => Sat.drop_ n (Sat.tail h)
theorem Sat.pk_ (n : Nat) : ∀ (idx : List Nat) {l : List SP} {g : HP}, Sat l g → Sat (pk n l idx) g
  | [], _, _, h => Sat.drop_ n h
  | i :: r, l, g, h => by
    unfold pk
    split
    · rename_i A e
      exact Sat.cons_map (fun g h => Sat.pk_ n r h) (Sat.bring i e h)
    · trivial
theorem Holds.pkF (h : Holds w l) (idx : List Nat) (n : Nat) : Holds w (pk n l idx) := Sat.pk_ n idx h
theorem Holds.drew_ (h : Holds w l) : Holds w.drew l := h
theorem A_cut {P : Program} {ops : Array Oper} {Q : Exit → Act → World → Prop} {S : World → Prop} {fuel : Nat} {ls : Array Bool} {a0 : Act} {w0 : World} (ls' : Array Bool) (fuel' : Nat) (J : Act → World → Prop) (h1 : ∀ a w, J a w → wpAnyH P .any ops Q S fuel' ls' a w)
    (h2 : (∀ a w, J a w → wpAnyH P .any ops Q S fuel' ls' a w) → wpAnyH P .any ops Q S fuel ls a0 w0) : wpAnyH P .any ops Q S fuel ls a0 w0 := h2 h1
end
end Go.Proofs.Ytdfjdmmmlidamaa.Gw
set_option linter.unusedVariables false
set_option linter.unusedSimpArgs false
set_option linter.unusedSectionVars false
namespace Go.Proofs.Ytdfjdmmmlidamaa.Gw
open Go Go.RowKit
section
variable {α : Type} [DecidableEq α]
variable {P : Program} {w : World} {l : List SP} {n : Nat} {e : Env} {K' : Value → World → Prop} {d : Option Nat} {ty : TypeId} {pos : String} {af : Array Edge} {g : Option (Nat × Bool)}
/-! ### The end of a slice -/
theorem fm_dropk {β : Type} {F : β → List Value} {n : Nat} (hn : ∀ x, (F x).length = n) : ∀ (L : List β) (k : Nat), (L.flatMap F).drop (k * n) = (L.drop k).flatMap F
  | [], k => by simp
  | x :: L, 0 => by simp
  | x :: L, k + 1 => by
    rw [List.flatMap_cons, Nat.succ_mul, List.drop_append, List.drop_eq_nil_of_le (by rw [hn]; omega), List.nil_append, hn, Nat.add_sub_cancel, fm_dropk hn L k, List.drop_succ_cons]
theorem fm_takek {β : Type} {F : β → List Value} {n : Nat} (hn : ∀ x, (F x).length = n) : ∀ (L : List β) (k : Nat), (L.flatMap F).take (k * n) = (L.take k).flatMap F
  | [], k => by simp
  | x :: L, 0 => by simp
  | x :: L, k + 1 => by
    rw [List.flatMap_cons, Nat.succ_mul, List.take_append, List.take_of_length_le (by rw [hn]; omega), hn, Nat.add_sub_cancel, fm_takek hn L k, List.take_succ_cons, List.flatMap_cons]
theorem RS.slcF {β : Type} {F : β → List Value} {n a b : Nat} (hn : ∀ x, (F x).length = n) {R : HP} {v : Value} {L : List β} (h : RS R n v L.length (L.flatMap F)) (h1 : a ≤ b) (h2 : b ≤ L.length) : RS R n (Gw.slc v a b n) ((L.drop a).take (b - a)).length (((L.drop a).take (b - a)).flatMap F) := by
  have := h.slc h1 h2
  rw [fm_dropk hn, fm_takek hn] at this
  rwa [List.length_take, List.length_drop, Nat.min_eq_left (by omega)]
theorem RS.slcD {β : Type} {F : β → List Value} {n a : Nat} (hn : ∀ x, (F x).length = n) {R : HP} {v : Value} {L : List β} (h : RS R n v L.length (L.flatMap F)) (h1 : a ≤ L.length) : RS R n (Gw.slc v a L.length n) (L.drop a).length ((L.drop a).flatMap F) := by
  have := RS.slcF hn h h1 (Nat.le_refl _)
  rwa [List.take_of_length_le (by rw [List.length_drop]; omega)] at this
end
end Go.Proofs.Ytdfjdmmmlidamaa.Gw
set_option linter.unusedVariables false
set_option linter.unusedSimpArgs false
namespace Go.Proofs.Ytdfjdmmmlidamaa.Gw
open Go Go.RowKit Go.ChangeShapes Go.WideShapes Go.ChangeAt
section
variable {H : Type} {enc : TypeId × Value → H} {P : Program} {w : World} {base : Nat} {spare : Nat → Bool} {held : Bool} {t : TypeId} {fuel n : Nat} {cs : List Value} {c : Value}
def ReadsB (enc : TypeId × Value → H) (P : Program) (w : World) (base : Nat) (spare : Nat → Bool) (held : Bool) (fuel : Nat) (t : TypeId) (cs : List Value) : Prop := ∃ y, DataW.trod enc P w base spare held fuel t cs = some y ∧ ∀ m ∈ y.1.weights P t, m ≤ reachBytes
theorem ReadsB.F (h : ReadsB enc P w base spare held fuel t cs) : ReadsF enc P w base spare held fuel t cs := by obtain ⟨y, h, _⟩ := h; exact ⟨y, h⟩
theorem ReadsB.reads (h : ReadsB enc P w base spare held fuel t cs) : Reads enc P w base spare held t cs := h.F.reads
theorem ReadsB.zero (h : ReadsB enc P w base spare held 0 t cs) : False := h.F.zero
end
end Go.Proofs.Ytdfjdmmmlidamaa.Gw
set_option linter.unusedVariables false
namespace Go.Proofs.Ytdfjdmmmlidamaa
open Go Gw
theorem foll : Try.prog.follows .mixedOrders = true := by kernel_rfl
theorem z3 : tin Try.prog 3 = some (1, 8, some (Value.int .i64 0)) := by kernel_rfl
theorem z4 : tin Try.prog 4 = some (1, 1, some (Value.bool false)) := by kernel_rfl
theorem z22 : tin Try.prog 22 = some (1, 24, some (Value.slice none 0 0)) := by kernel_rfl
theorem z24 : tin Try.prog 24 = some (2, 16, some (Value.agg #[(Value.int .i64 0), (Value.int .i64 0)])) := by kernel_rfl
theorem z30 : tin Try.prog 30 = some (8, 64, some (Value.agg #[(Value.int .i64 0), (Value.int .i64 0), (Value.int .i64 0), (Value.int .i64 0), (Value.int .i64 0), (Value.int .i64 0), (Value.int .i64 0), (Value.bool false)])) := by kernel_rfl
theorem z32 : tin Try.prog 32 = some (6, 64, some (Value.agg #[(Value.int .i64 0), (Value.bool false), (Value.int .i64 0), (Value.int .i64 0), (Value.int .i64 0), (Value.slice none 0 0)])) := by kernel_rfl
theorem z44 : tin Try.prog 44 = some (1, 8, some (Value.pointer none)) := by kernel_rfl
theorem z58 : tin Try.prog 58 = some (2, 16, some (Value.agg #[(Value.pointer none), (Value.nilFunc)])) := by kernel_rfl
theorem z59 : tin Try.prog 59 = some (1, 8, some (Value.pointer none)) := by kernel_rfl
theorem z60 : tin Try.prog 60 = some (1, 8, some (Value.pointer none)) := by kernel_rfl
theorem z72 : tin Try.prog 72 = some (0, 0, some (Value.agg #[])) := by kernel_rfl
theorem z76 : tin Try.prog 76 = some (1, 24, some (Value.slice none 0 0)) := by kernel_rfl
theorem z77 : tin Try.prog 77 = some (1, 24, some (Value.slice none 0 0)) := by kernel_rfl
theorem z79 : tin Try.prog 79 = some (3, 56, some (Value.agg #[(Value.slice none 0 0), (Value.slice none 0 0), (Value.pointer none)])) := by kernel_rfl
theorem z105 : tin Try.prog 105 = some (3, 24, some (Value.agg #[(Value.int .i64 0), (Value.int .i64 0), (Value.bool false)])) := by kernel_rfl
theorem cb6 : callable Try.prog 6 = true := by kernel_rfl
theorem cb7 : callable Try.prog 7 = true := by kernel_rfl
theorem cb9 : callable Try.prog 9 = true := by kernel_rfl
theorem cb11 : callable Try.prog 11 = true := by kernel_rfl
theorem cb12 : callable Try.prog 12 = true := by kernel_rfl
theorem cb13 : callable Try.prog 13 = true := by kernel_rfl
theorem cb14 : callable Try.prog 14 = true := by kernel_rfl
theorem cb15 : callable Try.prog 15 = true := by kernel_rfl
theorem cb16 : callable Try.prog 16 = true := by kernel_rfl
theorem cb18 : callable Try.prog 18 = true := by kernel_rfl
theorem cb20 : callable Try.prog 20 = true := by kernel_rfl
theorem cb21 : callable Try.prog 21 = true := by kernel_rfl
theorem cb22 : callable Try.prog 22 = true := by kernel_rfl
theorem cb23 : callable Try.prog 23 = true := by kernel_rfl
theorem cb25 : callable Try.prog 25 = true := by kernel_rfl
theorem cb33 : callable Try.prog 33 = true := by kernel_rfl
theorem cb34 : callable Try.prog 34 = true := by kernel_rfl
theorem cb35 : callable Try.prog 35 = true := by kernel_rfl
theorem cb36 : callable Try.prog 36 = true := by kernel_rfl
theorem cb37 : callable Try.prog 37 = true := by kernel_rfl
theorem cb38 : callable Try.prog 38 = true := by kernel_rfl
theorem cb40 : callable Try.prog 40 = true := by kernel_rfl
theorem cb44 : callable Try.prog 44 = true := by kernel_rfl
theorem cb45 : callable Try.prog 45 = true := by kernel_rfl
theorem cb46 : callable Try.prog 46 = true := by kernel_rfl
theorem cb47 : callable Try.prog 47 = true := by kernel_rfl
theorem cb48 : callable Try.prog 48 = true := by kernel_rfl
theorem cb49 : callable Try.prog 49 = true := by kernel_rfl
theorem cb50 : callable Try.prog 50 = true := by kernel_rfl
theorem cb51 : callable Try.prog 51 = true := by kernel_rfl
theorem cb52 : callable Try.prog 52 = true := by kernel_rfl
theorem cb53 : callable Try.prog 53 = true := by kernel_rfl
theorem cb54 : callable Try.prog 54 = true := by kernel_rfl
theorem cb55 : callable Try.prog 55 = true := by kernel_rfl
theorem cb56 : callable Try.prog 56 = true := by kernel_rfl
theorem cb57 : callable Try.prog 57 = true := by kernel_rfl
theorem cb58 : callable Try.prog 58 = true := by kernel_rfl
theorem cb59 : callable Try.prog 59 = true := by kernel_rfl
theorem cb63 : callable Try.prog 63 = true := by kernel_rfl
theorem cb64 : callable Try.prog 64 = true := by kernel_rfl
theorem cb65 : callable Try.prog 65 = true := by kernel_rfl
theorem cb66 : callable Try.prog 66 = true := by kernel_rfl
theorem cb67 : callable Try.prog 67 = true := by kernel_rfl
theorem cb68 : callable Try.prog 68 = true := by kernel_rfl
theorem cb69 : callable Try.prog 69 = true := by kernel_rfl
theorem cb70 : callable Try.prog 70 = true := by kernel_rfl
end Go.Proofs.Ytdfjdmmmlidamaa
set_option linter.unusedVariables false
set_option linter.unusedSimpArgs false
namespace Go.Proofs.Ytdfjdmmmlidamaa
open Go Go.RowKit Gw Try
open Go.Value renaming int → vI, bool → vB, slice → vS, pointer → vP, agg → vA, tuple → vT
section
variable {P : Program} {n : Nat} {e : Env} {ds : List Deferred} {w : World} {Q : Exit → Act → World → Prop} {ops : Array Oper} {rest : List Oper} {ty : TypeId} {pos : String} {af : Array Edge}
theorem sm {dd : Nat} {x : Operand} (v : Value) (k : wpList P ops Q rest (mkA n (upd e dd v) ds) w) (h : ev n e x = v := by exact rfl) : wpList P ops Q (⟨some dd, .move x, ty, pos, af, none⟩ :: rest) (mkA n e ds) w := sv (x_move h) k
theorem cR {id : Nat} {lo : List Oper} {y : Code} (h : ∀ K : Act → World → Prop, (∀ a w, y.wp P Q a w → K a w) → wpList P lo.toArray (Exit.then K Q) lo (mkA n e ds) w) : (Code.seq (.region id lo.toArray false) y).wp P Q (mkA n e ds) w := C_seq fun K hK => C_reg (h K hK)
theorem wn {J : Act → World → Prop} {a : Act} (h : J a w) : wpList P ops (Exit.then J Q) [] a w := wpList_nil (X_then h)
end

structure EL where
  key : Int
  val : Int
def EL.cells (x : EL) : List Value := [(vI .i64 x.key), (vI .i64 x.val)]
theorem EL.len (x : EL) : x.cells.length = 2 := rfl

/-! ### B-trees: all leaves are equally deep -/
structure BN where
  a : Nat
  iv : Value
  cv : Value
  xs : List EL
def BT : Nat → Type
  | 0 => BN
  | h + 1 => BN × List (BT h)
def BT.n : {h : Nat} → BT h → BN
  | 0, t => t
  | _ + 1, t => t.1
def inter : List EL → List (List EL) → List EL
  | [], k :: _ => k
  | x :: xs, k :: ks => k ++ x :: inter xs ks
  | _, [] => []
def BT.el : {h : Nat} → BT h → List EL
  | 0, t => BN.xs t
  | _ + 1, t => inter t.1.xs (t.2.map BT.el)
def BT.Wf : {h : Nat} → BT h → Prop
  | 0, _ => True
  | _ + 1, t => t.2.length = t.1.xs.length + 1 ∧ ∀ k ∈ t.2, k.Wf
def BT.a {h : Nat} (t : BT h) : Nat := t.n.a
def pB (b : Nat) : Value := .pointer (some ⟨b, 0, none⟩)
def pBs (cs : List Nat) : List Value := cs.map pB
def btp (c : Nat) : {h : Nat} → BT h → SP
  | 0, t => grp [cl (BN.a t) 79 [BN.iv t, .slice none 0 0, pB c], sl 24 2 (BN.iv t) (BN.xs t).length ((BN.xs t).flatMap EL.cells)]
  | _ + 1, t => grp [cl t.1.a 79 [t.1.iv, t.1.cv, pB c], sl 24 2 t.1.iv t.1.xs.length (t.1.xs.flatMap EL.cells), sl 59 1 t.1.cv (t.2.map BT.a).length (pBs (t.2.map BT.a)), grp (t.2.map (btp c))]
def kids (c : Nat) {h : Nat} (ks : List (BT h)) : SP := grp (ks.map (btp c))
section
variable {c h : Nat} {w : World} {l : List SP}
theorem Holds.leaf_out {t : BN} (H : Holds w (btp c (h := 0) t :: l)) : Holds w (cl t.a 79 [t.iv, .slice none 0 0, pB c] :: sl 24 2 t.iv t.xs.length (t.xs.flatMap EL.cells) :: l) := Holds.ungrp H
theorem Holds.leaf_in {t : BN} (H : Holds w (cl t.a 79 [t.iv, .slice none 0 0, pB c] :: sl 24 2 t.iv t.xs.length (t.xs.flatMap EL.cells) :: l)) : Holds w (btp c (h := 0) t :: l) := Holds.grp (l := [_, _]) H
theorem Holds.node_out {t : BN} {ks : List (BT h)} (H : Holds w (btp c (h := h + 1) (t, ks) :: l)) :
    Holds w (cl t.a 79 [t.iv, t.cv, pB c] :: sl 24 2 t.iv t.xs.length (t.xs.flatMap EL.cells) :: sl 59 1 t.cv (ks.map BT.a).length (pBs (ks.map BT.a)) :: kids c ks :: l) := Holds.ungrp H
theorem Holds.node_in {t : BN} {ks : List (BT h)} (H : Holds w (cl t.a 79 [t.iv, t.cv, pB c] :: sl 24 2 t.iv t.xs.length (t.xs.flatMap EL.cells) :: sl 59 1 t.cv (ks.map BT.a).length (pBs (ks.map BT.a)) :: kids c ks :: l)) :
    Holds w (btp c (h := h + 1) (t, ks) :: l) := Holds.grp (l := [_, _, _, _]) H
theorem erase_map {α β : Type _} (f : α → β) (l : List α) (i : Nat) : (l.map f).eraseIdx i = (l.eraseIdx i).map f := by
  rw [List.eraseIdx_eq_take_drop_succ, List.eraseIdx_eq_take_drop_succ, List.map_append, List.map_take, List.map_drop]
theorem Sat.grp' {l m : List SP} {g : HP} (h : Sat (l ++ m) g) : Sat (Gw.grp l :: m) g := by
  obtain ⟨h1, k, s, t, d, a, r⟩ := Sat.append.1 h
  exact ⟨h1, k, s, t, d, a, r⟩
theorem Sat.ungrp' {l m : List SP} {g : HP} (h : Sat (Gw.grp l :: m) g) : Sat (l ++ m) g := by
  obtain ⟨h1, k, s, t, d, a, r⟩ := h
  exact Sat.append.2 ⟨h1, k, s, t, d, a, r⟩
theorem Holds.kids_out {ks : List (BT h)} {i : Nat} {k : BT h} (hk : ks[i]? = some k) (H : Holds w (kids c ks :: l)) : Holds w (btp c k :: kids c (ks.eraseIdx i) :: l) := by
  have h1 : Holds w (ks.map (btp c) ++ l) := Holds.ungrp H
  have hl : i < ks.length := (List.getElem?_eq_some_iff.1 hk).1
  have h2 := Holds.bring h1 i (A := btp c k) (by rw [List.getElem?_append_left (by simpa using hl), List.getElem?_map, hk]; rfl)
  have e : (ks.map (btp c) ++ l).eraseIdx i = (ks.eraseIdx i).map (btp c) ++ l := by
    rw [List.eraseIdx_append_of_lt_length (by simpa using hl), erase_map]
  rw [e] at h2
  exact Sat.cons_map (fun _ q => Sat.grp' q) h2
theorem Holds.kids_in {ks : List (BT h)} {i : Nat} {k : BT h} (hl : i < ks.length) (H : Holds w (btp c k :: kids c (ks.eraseIdx i) :: l)) : Holds w (kids c (ks.set i k) :: l) := by
  have h1 : Holds w (btp c k :: ((ks.eraseIdx i).map (btp c) ++ l)) := Sat.cons_map (fun _ q => Sat.ungrp' q) H
  refine Holds.grp (l := (ks.set i k).map (btp c)) ?_
  refine Sat.back i (A := btp c k) (by rw [List.getElem?_append_left (by simpa using hl), List.getElem?_map, List.getElem?_set_self hl]; rfl) ?_
  have e : ((ks.set i k).map (btp c) ++ l).eraseIdx i = (ks.eraseIdx i).map (btp c) ++ l := by
    rw [List.eraseIdx_append_of_lt_length (by simpa using hl), erase_map, List.eraseIdx_set_eq]
  rw [e]
  exact h1
theorem Holds.kids_back {ks : List (BT h)} {i : Nat} {k : BT h} (hk : ks[i]? = some k) (H : Holds w (btp c k :: kids c (ks.eraseIdx i) :: l)) : Holds w (kids c ks :: l) := by
  obtain ⟨hl, e⟩ := List.getElem?_eq_some_iff.1 hk
  have h1 := Holds.kids_in hl H
  rwa [show ks.set i k = ks by rw [← e]; exact List.set_getElem_self hl] at h1
theorem Holds.kids_two {ks : List (BT h)} {i : Nat} {k1 k2 : BT h} (hl : i < ks.length) (H : Holds w (btp c k1 :: btp c k2 :: kids c (ks.eraseIdx i) :: l)) : Holds w (kids c (ks.take i ++ k1 :: k2 :: ks.drop (i + 1)) :: l) := by
  have h0 : Holds w (btp c k1 :: btp c k2 :: ((ks.eraseIdx i).map (btp c) ++ l)) := Sat.cons_map (fun _ q => Sat.cons_map (fun _ q => Sat.ungrp' q) q) H
  refine Holds.grp (l := (ks.take i ++ k1 :: k2 :: ks.drop (i + 1)).map (btp c)) ?_
  have hi : (ks.take i).length = i := by rw [List.length_take]; omega
  have hi2 : ((ks.take i).map (btp c)).length = i := by rw [List.length_map, hi]
  refine Sat.back i (A := btp c k1) (by rw [List.map_append, List.append_assoc, List.getElem?_append_right (by omega), hi2, Nat.sub_self]; rfl) ?_
  have e1 : ((ks.take i ++ k1 :: k2 :: ks.drop (i + 1)).map (btp c) ++ l).eraseIdx i = (ks.take i ++ k2 :: ks.drop (i + 1)).map (btp c) ++ l := by
    rw [List.map_append, List.append_assoc, List.eraseIdx_append_of_length_le (by omega), hi2, Nat.sub_self, List.map_append, List.append_assoc]
    rfl
  rw [e1]
  refine Sat.cons_map (fun _ q => Sat.back i (A := btp c k2) (by rw [List.map_append, List.append_assoc, List.getElem?_append_right (by omega), hi2, Nat.sub_self]; rfl) ?_) h0
  have e2 : ((ks.take i ++ k2 :: ks.drop (i + 1)).map (btp c) ++ l).eraseIdx i = (ks.eraseIdx i).map (btp c) ++ l := by
    rw [List.map_append, List.append_assoc, List.eraseIdx_append_of_length_le (by omega), hi2, Nat.sub_self, show ks.eraseIdx i = ks.take i ++ ks.drop (i + 1) from List.eraseIdx_eq_take_drop_succ _ _, List.map_append, List.append_assoc]
    rfl
  rw [e2]
  exact q
theorem Holds.kids_split {ks ks' : List (BT h)} (H : Holds w (kids c (ks ++ ks') :: l)) : Holds w (kids c ks :: kids c ks' :: l) := by
  have h1 : Holds w ((ks ++ ks').map (btp c) ++ l) := Holds.ungrp H
  rw [List.map_append, List.append_assoc] at h1
  exact Sat.cons_map (fun _ q => Sat.grp' q) (Holds.grp h1)
end


/-! ### Elements by rising keys -/
def SrtE (l : List EL) : Prop := l.Pairwise (fun a b => a.key < b.key)
def insE (e : EL) (l : List EL) : List EL := l.filter (fun x => decide (x.key < e.key)) ++ e :: l.filter (fun x => decide (e.key < x.key))
def getE (k : Int) (l : List EL) : Option EL := l.find? (fun x => decide (x.key = k))
theorem fil_all {l : List EL} {p : EL → Bool} (h : ∀ z ∈ l, p z = true) : l.filter p = l := List.filter_eq_self.2 h
theorem fil_none {l : List EL} {p : EL → Bool} (h : ∀ z ∈ l, p z = false) : l.filter p = [] := List.filter_eq_nil_iff.2 (fun z hz => by rw [h z hz]; decide)
theorem insE_mid {e : EL} {A m B : List EL} (hA : ∀ z ∈ A, z.key < e.key) (hB : ∀ z ∈ B, e.key < z.key) : insE e (A ++ (m ++ B)) = A ++ (insE e m ++ B) := by
  unfold insE
  rw [List.filter_append, List.filter_append, List.filter_append, List.filter_append, fil_all (fun z hz => decide_eq_true (hA z hz)), fil_none (l := B) (fun z hz => decide_eq_false (by have := hB z hz; omega)), fil_none (l := A) (fun z hz => decide_eq_false (by have := hA z hz; omega)), fil_all (l := B) (fun z hz => decide_eq_true (hB z hz))]
  simp
theorem insE_nil (e : EL) : insE e [] = [e] := rfl
theorem insE_one {e x : EL} (h : x.key = e.key) : insE e [x] = [e] := by
  unfold insE
  rw [fil_none (fun z hz => by rw [List.mem_singleton.1 hz]; exact decide_eq_false (by omega)), fil_none (fun z hz => by rw [List.mem_singleton.1 hz]; exact decide_eq_false (by omega))]
  rfl
theorem getE_mid {k : Int} {A m B : List EL} (hA : ∀ z ∈ A, z.key < k) (hB : ∀ z ∈ B, k < z.key) : getE k (A ++ (m ++ B)) = getE k m := by
  unfold getE
  rw [List.find?_append, List.find?_append]
  have e1 : List.find? (fun x => decide (x.key = k)) A = none := List.find?_eq_none.2 (fun z hz => by have := hA z hz; simp; omega)
  have e2 : List.find? (fun x => decide (x.key = k)) B = none := List.find?_eq_none.2 (fun z hz => by have := hB z hz; simp; omega)
  rw [e1, e2]
  simp
theorem getE_one {k : Int} {x : EL} (h : x.key = k) : getE k [x] = some x := by simp [getE, h]
theorem srt_app {A B : List EL} (h : SrtE (A ++ B)) : SrtE A ∧ SrtE B ∧ ∀ a ∈ A, ∀ b ∈ B, a.key < b.key := List.pairwise_append.1 h
theorem insE_srt {e : EL} {l : List EL} (h : SrtE l) : SrtE (insE e l) := by
  refine List.pairwise_append.2 ⟨h.filter _, List.pairwise_cons.2 ⟨fun z hz => of_decide_eq_true (List.mem_filter.1 hz).2, h.filter _⟩, fun a ha b hb => ?_⟩
  have h1 : a.key < e.key := of_decide_eq_true (List.mem_filter.1 ha).2
  rcases List.mem_cons.1 hb with rfl | hb
  · exact h1
  · have h2 : e.key < b.key := of_decide_eq_true (List.mem_filter.1 hb).2
    omega
theorem insE_len (e : EL) : ∀ l : List EL, (insE e l).length ≤ l.length + 1
  | [] => by simp [insE]
  | x :: l => by
    have ih := insE_len e l
    unfold insE at ih ⊢
    simp only [List.length_append, List.length_cons, List.filter_cons] at ih ⊢
    by_cases h1 : x.key < e.key
    · have h2 : ¬ e.key < x.key := by omega
      simp [h1, h2]; omega
    · by_cases h2 : e.key < x.key
      · simp [h1, h2]; omega
      · simp [h1, h2]; omega
/-! ### What stands between -/
def preI : List EL → List (List EL) → List EL
  | x :: xs, k :: ks => k ++ x :: preI xs ks
  | _, _ => []
def postI : List EL → List (List EL) → List EL
  | x :: xs, k :: ks => x :: (k ++ postI xs ks)
  | _, _ => []
theorem inter_cons : ∀ {xs : List EL} {k : List EL} {ks : List (List EL)}, ks.length = xs.length → inter xs (k :: ks) = k ++ postI xs ks
  | [], k, [], _ => by simp [inter, postI]
  | x :: xs, k, k' :: ks, h => by
    have ih := inter_cons (xs := xs) (k := k') (ks := ks) (by simpa using h)
    simp only [inter, postI]
    rw [ih]
theorem inter_at : ∀ {xs : List EL} {ks : List (List EL)} {i : Nat} {k : List EL}, ks.length = xs.length + 1 → ks[i]? = some k → inter xs ks = preI (xs.take i) (ks.take i) ++ (k ++ postI (xs.drop i) (ks.drop (i + 1)))
  | xs, k0 :: ks, 0, k, h, hk => by
    simp at hk; subst hk
    rw [inter_cons (by simpa using h)]
    simp [preI]
  | x :: xs, k0 :: ks, i + 1, k, h, hk => by
    have ih := inter_at (xs := xs) (ks := ks) (i := i) (k := k) (by simpa using h) (by simpa using hk)
    simp only [inter, List.take_succ_cons, List.drop_succ_cons, preI]
    rw [ih]
    simp
  | [], k0 :: ks, i + 1, k, h, hk => by
    simp at h; subst h; simp at hk
  | xs, [], i, k, h, hk => by simp at h
theorem inter_set {xs : List EL} {ks : List (List EL)} {i : Nat} {k k' : List EL} (h : ks.length = xs.length + 1) (hk : ks[i]? = some k) : inter xs (ks.set i k') = preI (xs.take i) (ks.take i) ++ (k' ++ postI (xs.drop i) (ks.drop (i + 1))) := by
  have hl := (List.getElem?_eq_some_iff.1 hk).1
  rw [inter_at (i := i) (k := k') (by rw [List.length_set]; exact h) (List.getElem?_set_self hl), List.take_set_of_le (Nat.le_refl _), List.drop_set_of_lt (by omega)]
theorem inter_two : ∀ {xs : List EL} {ks : List (List EL)} {i : Nat} (m : EL) (k1 k2 : List EL), ks.length = xs.length + 1 → i ≤ xs.length →
    inter (xs.take i ++ m :: xs.drop i) (ks.take i ++ k1 :: k2 :: ks.drop (i + 1)) = preI (xs.take i) (ks.take i) ++ ((k1 ++ m :: k2) ++ postI (xs.drop i) (ks.drop (i + 1)))
  | xs, k0 :: ks, 0, m, k1, k2, h, hi => by
    simp only [List.take_zero, List.nil_append, List.drop_zero, List.drop_succ_cons, preI, inter]
    rw [inter_cons (by simpa using h)]
    simp
  | x :: xs, k0 :: ks, i + 1, m, k1, k2, h, hi => by
    have ih := inter_two (xs := xs) (ks := ks) (i := i) m k1 k2 (by simpa using h) (by simpa using hi)
    simp only [List.take_succ_cons, List.drop_succ_cons, List.cons_append, inter, preI]
    rw [ih]
    simp
  | [], k0 :: ks, i + 1, m, k1, k2, h, hi => by simp at hi
  | xs, [], i, m, k1, k2, h, hi => by simp at h
theorem inter_cut : ∀ {xs : List EL} {ks : List (List EL)} {j : Nat} {x : EL}, ks.length = xs.length + 1 → xs[j]? = some x →
    inter xs ks = inter (xs.take j) (ks.take (j + 1)) ++ x :: inter (xs.drop (j + 1)) (ks.drop (j + 1))
  | y :: xs, k0 :: ks, 0, x, h, hx => by
    simp at hx; subst hx
    simp [inter]
  | y :: xs, k0 :: ks, j + 1, x, h, hx => by
    have ih := inter_cut (xs := xs) (ks := ks) (j := j) (x := x) (by simpa using h) (by simpa using hx)
    simp only [inter, List.take_succ_cons, List.drop_succ_cons]
    rw [ih]
    simp
  | [], k0 :: ks, j, x, h, hx => by simp at hx
  | xs, [], j, x, h, hx => by simp at h
theorem pre_lt {c : Int} : ∀ {xs : List EL} {ks : List (List EL)}, SrtE (preI xs ks) → (∀ y ∈ xs, y.key < c) → ∀ z ∈ preI xs ks, z.key < c
  | x :: xs, k :: ks, hs, h, z, hz => by
    simp only [preI] at hs hz
    obtain ⟨h1, h2, h3⟩ := srt_app hs
    have hx := h x List.mem_cons_self
    rcases List.mem_append.1 hz with hz | hz
    · have := h3 z hz x List.mem_cons_self; omega
    · rcases List.mem_cons.1 hz with rfl | hz
      · exact hx
      · exact pre_lt (List.pairwise_cons.1 h2).2 (fun y hy => h y (List.mem_cons_of_mem _ hy)) z hz
  | [], _, _, _, z, hz => by simp [preI] at hz
  | _ :: _, [], _, _, z, hz => by simp [preI] at hz
theorem post_gt {c : Int} : ∀ {xs : List EL} {ks : List (List EL)}, SrtE (postI xs ks) → (∀ y ∈ xs, c < y.key) → ∀ z ∈ postI xs ks, c < z.key
  | x :: xs, k :: ks, hs, h, z, hz => by
    simp only [postI] at hs hz
    have hx := h x List.mem_cons_self
    rcases List.mem_cons.1 hz with rfl | hz
    · exact hx
    · have h0 := List.pairwise_cons.1 hs
      rcases List.mem_append.1 hz with hz' | hz'
      · have := h0.1 z hz; omega
      · exact post_gt (srt_app h0.2).2.1 (fun y hy => h y (List.mem_cons_of_mem _ hy)) z hz'
  | [], _, _, _, z, hz => by simp [postI] at hz
  | _ :: _, [], _, _, z, hz => by simp [postI] at hz
theorem inter_sub : ∀ {xs : List EL} {ks : List (List EL)}, ks.length = xs.length + 1 → xs.Sublist (inter xs ks)
  | [], _, _ => List.nil_sublist _
  | x :: xs, k :: ks, h => by
    simp only [inter]
    exact List.Sublist.trans (List.Sublist.cons_cons x (inter_sub (by simpa using h))) (List.sublist_append_right _ _)
  | x :: xs, [], h => by simp at h
theorem inter_kid {xs : List EL} {ks : List (List EL)} {i : Nat} {k : List EL} (h : ks.length = xs.length + 1) (hk : ks[i]? = some k) (hs : SrtE (inter xs ks)) : SrtE k ∧ k.length ≤ (inter xs ks).length := by
  rw [inter_at h hk] at hs ⊢
  exact ⟨(srt_app (srt_app hs).2.1).1, by simp only [List.length_append]; omega⟩
theorem inter_ins {xs : List EL} {ks : List (List EL)} {i : Nat} {k : List EL} {e : EL} (h : ks.length = xs.length + 1) (hk : ks[i]? = some k) (hs : SrtE (inter xs ks)) (h1 : ∀ y ∈ xs.take i, y.key < e.key) (h2 : ∀ y ∈ xs.drop i, e.key < y.key) :
    inter xs (ks.set i (insE e k)) = insE e (inter xs ks) ∧ getE e.key (inter xs ks) = getE e.key k := by
  rw [inter_set h hk]
  rw [inter_at h hk] at hs ⊢
  have hA := pre_lt (srt_app hs).1 h1
  have hB := post_gt (srt_app (srt_app hs).2.1).2.1 h2
  exact ⟨(insE_mid hA hB).symm, getE_mid hA hB⟩
theorem srt_at {A B : List EL} {x : EL} (hs : SrtE (A ++ x :: B)) : (∀ z ∈ A, z.key < x.key) ∧ ∀ z ∈ B, x.key < z.key :=
  ⟨fun z hz => (srt_app hs).2.2 z hz x List.mem_cons_self, (List.pairwise_cons.1 (srt_app hs).2.1).1⟩
theorem cut_set {xs : List EL} {ks : List (List EL)} {j : Nat} {x e : EL} (h : ks.length = xs.length + 1) (hx : xs[j]? = some x) (hs : SrtE (inter xs ks)) (he : x.key = e.key) :
    inter (xs.set j e) ks = insE e (inter xs ks) ∧ getE e.key (inter xs ks) = some x := by
  have hl := (List.getElem?_eq_some_iff.1 hx).1
  rw [inter_cut (x := e) (j := j) (by rw [List.length_set]; exact h) (List.getElem?_set_self hl), List.take_set_of_le (Nat.le_refl _), List.drop_set_of_lt (by omega)]
  rw [inter_cut h hx] at hs ⊢
  obtain ⟨h1, h2⟩ := srt_at hs
  rw [he] at h1 h2
  have e1 := insE_mid (m := [x]) h1 h2
  have e2 := getE_mid (m := [x]) h1 h2
  rw [insE_one he] at e1
  rw [getE_one he] at e2
  exact ⟨e1.symm, e2⟩
theorem leaf_set {xs : List EL} {j : Nat} {x e : EL} (hx : xs[j]? = some x) (hs : SrtE xs) (he : x.key = e.key) : xs.set j e = insE e xs ∧ getE e.key xs = some x := by
  obtain ⟨hl, hg⟩ := List.getElem?_eq_some_iff.1 hx
  have e0 : xs = xs.take j ++ x :: xs.drop (j + 1) := by rw [← hg, List.getElem_cons_drop, List.take_append_drop]
  have e9 : xs.set j e = xs.take j ++ e :: xs.drop (j + 1) := by rw [List.set_eq_take_append_cons_drop, if_pos hl]
  have hs' := hs
  rw [e0] at hs'
  obtain ⟨h1, h2⟩ := srt_at hs'
  rw [he] at h1 h2
  have e1 := insE_mid (m := [x]) h1 h2
  have e2 := getE_mid (m := [x]) h1 h2
  rw [insE_one he] at e1
  rw [getE_one he] at e2
  have e0' : xs.take j ++ ([x] ++ xs.drop (j + 1)) = xs := e0.symm
  rw [e0'] at e1 e2
  exact ⟨e9.trans e1.symm, e2⟩
theorem leaf_ins {xs : List EL} {i : Nat} {e : EL} (h1 : ∀ y ∈ xs.take i, y.key < e.key) (h2 : ∀ y ∈ xs.drop i, e.key < y.key) : xs.take i ++ e :: xs.drop i = insE e xs ∧ getE e.key xs = none := by
  have e1 := insE_mid (m := []) h1 h2
  have e2 := getE_mid (m := []) h1 h2
  rw [List.nil_append, List.take_append_drop] at e1 e2
  rw [insE_nil] at e1
  exact ⟨e1.symm, e2⟩


/-! ### Splits; an element put in -/
theorem map_at2 {α β : Type _} {f : α → β} {l : List α} {i : Nat} {x : α} (h : l[i]? = some x) : (l.map f)[i]? = some (f x) := by rw [List.getElem?_map, h]; rfl
theorem BT.elS {h : Nat} (t : BN) (ks : List (BT h)) : BT.el (h := h + 1) (t, ks) = inter t.xs (ks.map BT.el) := rfl
theorem BT.wfS {h : Nat} (t : BN) (ks : List (BT h)) : BT.Wf (h := h + 1) (t, ks) ↔ ks.length = t.xs.length + 1 ∧ ∀ k ∈ ks, k.Wf := Iff.rfl
structure Spl {h : Nat} (k k1 k2 : BT h) (m : EL) : Prop where
  w1 : k1.Wf
  w2 : k2.Wf
  a : k1.n.a = k.n.a
  e : k.el = k1.el ++ m :: k2.el
theorem spl_leaf {t : BN} {j a2 : Nat} {iv iv2 : Value} {m : EL} (h : t.xs[j]? = some m) : Spl (h := 0) t ⟨t.a, iv, .slice none 0 0, t.xs.take j⟩ ⟨a2, iv2, .slice none 0 0, t.xs.drop (j + 1)⟩ m := by
  obtain ⟨hl, hg⟩ := List.getElem?_eq_some_iff.1 h
  refine ⟨trivial, trivial, rfl, ?_⟩
  show t.xs = t.xs.take j ++ m :: t.xs.drop (j + 1)
  rw [← hg, List.getElem_cons_drop, List.take_append_drop]
theorem spl_node {h : Nat} {t : BN} {ks : List (BT h)} {j a2 : Nat} {iv iv2 cv cv2 : Value} {m : EL} (hw : BT.Wf (h := h + 1) (t, ks)) (hj : t.xs[j]? = some m) :
    Spl (h := h + 1) (t, ks) (⟨t.a, iv, cv, t.xs.take j⟩, ks.take (j + 1)) (⟨a2, iv2, cv2, t.xs.drop (j + 1)⟩, ks.drop (j + 1)) m := by
  have hl := (List.getElem?_eq_some_iff.1 hj).1
  obtain ⟨h1, h2⟩ := (BT.wfS _ _).1 hw
  refine ⟨⟨?_, fun k hk => h2 k (List.mem_of_mem_take hk)⟩, ⟨?_, fun k hk => h2 k (List.mem_of_mem_drop hk)⟩, rfl, ?_⟩
  · show (ks.take (j + 1)).length = (t.xs.take j).length + 1
    rw [List.length_take, List.length_take]; omega
  · show (ks.drop (j + 1)).length = (t.xs.drop (j + 1)).length + 1
    rw [List.length_drop, List.length_drop]; omega
  · show inter t.xs (ks.map BT.el) = inter (t.xs.take j) ((ks.take (j + 1)).map BT.el) ++ m :: inter (t.xs.drop (j + 1)) ((ks.drop (j + 1)).map BT.el)
    rw [inter_cut (by simpa using h1) hj, List.map_take, List.map_drop]
theorem two_el {h : Nat} {t : BN} {ks : List (BT h)} {i : Nat} {k k1 k2 : BT h} {m : EL} {iv cv : Value} (hw : BT.Wf (h := h + 1) (t, ks)) (hk : ks[i]? = some k) (hs : Spl k k1 k2 m) :
    BT.Wf (h := h + 1) (⟨t.a, iv, cv, t.xs.take i ++ m :: t.xs.drop i⟩, ks.take i ++ k1 :: k2 :: ks.drop (i + 1)) ∧
    BT.el (h := h + 1) (⟨t.a, iv, cv, t.xs.take i ++ m :: t.xs.drop i⟩, ks.take i ++ k1 :: k2 :: ks.drop (i + 1)) = BT.el (h := h + 1) (t, ks) := by
  have hl := (List.getElem?_eq_some_iff.1 hk).1
  obtain ⟨h1, h2⟩ := (BT.wfS _ _).1 hw
  refine ⟨⟨?_, ?_⟩, ?_⟩
  · show (ks.take i ++ k1 :: k2 :: ks.drop (i + 1)).length = (t.xs.take i ++ m :: t.xs.drop i).length + 1
    simp only [List.length_append, List.length_cons, List.length_take, List.length_drop]; omega
  · intro y hy
    have hy : y ∈ ks.take i ++ k1 :: k2 :: ks.drop (i + 1) := hy
    rcases List.mem_append.1 hy with hy | hy
    · exact h2 y (List.mem_of_mem_take hy)
    · rcases List.mem_cons.1 hy with rfl | hy
      · exact hs.w1
      · rcases List.mem_cons.1 hy with rfl | hy
        · exact hs.w2
        · exact h2 y (List.mem_of_mem_drop hy)
  · rw [BT.elS, BT.elS]
    show inter (t.xs.take i ++ m :: t.xs.drop i) ((ks.take i ++ k1 :: k2 :: ks.drop (i + 1)).map BT.el) = inter t.xs (ks.map BT.el)
    have e : (ks.take i ++ k1 :: k2 :: ks.drop (i + 1)).map BT.el = (ks.map BT.el).take i ++ k1.el :: k2.el :: (ks.map BT.el).drop (i + 1) := by simp
    rw [e, inter_two m _ _ (by simpa using h1) (by omega), inter_at (by simpa using h1) (map_at2 (f := BT.el) hk), hs.e]
def zE : EL := ⟨0, 0⟩
def Told (e : EL) (l : List EL) (o : EL) (b : Bool) : Prop := (b = true ∧ getE e.key l = some o) ∨ (b = false ∧ getE e.key l = none ∧ o = zE)
structure Ins {h : Nat} (e : EL) (t t' : BT h) (o : EL) (b : Bool) : Prop where
  w : t'.Wf
  a : t'.n.a = t.n.a
  el : t'.el = insE e t.el
  t : Told e t.el o b
theorem ins_leaf_set {t : BN} {j : Nat} {x e : EL} {cv : Value} (hx : t.xs[j]? = some x) (hs : SrtE t.xs) (he : x.key = e.key) : Ins (h := 0) e t ⟨t.a, t.iv, cv, t.xs.set j e⟩ x true :=
  ⟨trivial, rfl, (leaf_set hx hs he).1, .inl ⟨rfl, (leaf_set hx hs he).2⟩⟩
theorem ins_leaf {t : BN} {i : Nat} {e : EL} {iv cv : Value} (h1 : ∀ y ∈ t.xs.take i, y.key < e.key) (h2 : ∀ y ∈ t.xs.drop i, e.key < y.key) : Ins (h := 0) e t ⟨t.a, iv, cv, t.xs.take i ++ e :: t.xs.drop i⟩ zE false :=
  ⟨trivial, rfl, (leaf_ins h1 h2).1, .inr ⟨rfl, (leaf_ins h1 h2).2, rfl⟩⟩
theorem ins_node_set {h : Nat} {t : BN} {ks : List (BT h)} {j : Nat} {x e : EL} {iv cv : Value} (hw : BT.Wf (h := h + 1) (t, ks)) (hx : t.xs[j]? = some x) (hs : SrtE (BT.el (h := h + 1) (t, ks))) (he : x.key = e.key) :
    Ins (h := h + 1) e (t, ks) (⟨t.a, iv, cv, t.xs.set j e⟩, ks) x true := by
  obtain ⟨h1, h2⟩ := (BT.wfS _ _).1 hw
  have := cut_set (ks := ks.map BT.el) (by simpa using h1) hx hs he
  exact ⟨⟨by show ks.length = (t.xs.set j e).length + 1; rw [List.length_set]; exact h1, h2⟩, rfl, this.1, .inl ⟨rfl, this.2⟩⟩
theorem ins_node {h : Nat} {t : BN} {ks : List (BT h)} {i : Nat} {k k' : BT h} {e o : EL} {b : Bool} (hw : BT.Wf (h := h + 1) (t, ks)) (hk : ks[i]? = some k) (hs : SrtE (BT.el (h := h + 1) (t, ks)))
    (h1 : ∀ y ∈ t.xs.take i, y.key < e.key) (h2 : ∀ y ∈ t.xs.drop i, e.key < y.key) (hi : Ins e k k' o b) : Ins (h := h + 1) e (t, ks) (t, ks.set i k') o b := by
  obtain ⟨h3, h4⟩ := (BT.wfS _ _).1 hw
  have := inter_ins (ks := ks.map BT.el) (by simpa using h3) (map_at2 (f := BT.el) hk) hs h1 h2
  refine ⟨⟨by show (ks.set i k').length = t.xs.length + 1; rw [List.length_set]; exact h3, fun y hy => ?_⟩, rfl, ?_, ?_⟩
  · rcases List.mem_or_eq_of_mem_set hy with hy | rfl
    · exact h4 y hy
    · exact hi.w
  · rw [BT.elS, BT.elS, List.map_set, hi.el]
    exact this.1
  · have ht := hi.t
    unfold Told at ht ⊢
    rw [BT.elS, this.2]
    exact ht
theorem kid_srt {h : Nat} {t : BN} {ks : List (BT h)} {i : Nat} {k : BT h} (hw : BT.Wf (h := h + 1) (t, ks)) (hk : ks[i]? = some k) (hs : SrtE (BT.el (h := h + 1) (t, ks))) : SrtE k.el ∧ k.el.length ≤ (BT.el (h := h + 1) (t, ks)).length ∧ k.Wf :=
  have q := inter_kid (ks := ks.map BT.el) (by simpa using ((BT.wfS _ _).1 hw).1) (map_at2 (f := BT.el) hk) hs
  ⟨q.1, q.2, ((BT.wfS _ _).1 hw).2 k (List.mem_of_getElem? hk)⟩
theorem own_srt {h : Nat} {t : BN} {ks : List (BT h)} (hw : BT.Wf (h := h + 1) (t, ks)) (hs : SrtE (BT.el (h := h + 1) (t, ks))) : SrtE t.xs ∧ t.xs.length ≤ (BT.el (h := h + 1) (t, ks)).length :=
  have q := inter_sub (ks := ks.map BT.el) (by simpa using ((BT.wfS _ _).1 hw).1)
  ⟨hs.sublist q, q.length_le⟩
def PlE (k : Int) (xs : List EL) (i : Nat) (b : Bool) : Prop := (b = true → ∃ x, xs[i]? = some x ∧ x.key = k) ∧ (b = false → i ≤ xs.length ∧ (∀ y ∈ xs.take i, y.key < k) ∧ ∀ y ∈ xs.drop i, k < y.key)
theorem pl_two {k : Int} {xs : List EL} {i : Nat} {m : EL} (hl : i ≤ xs.length) (h1 : ∀ y ∈ xs.take i, y.key < k) (h2 : ∀ y ∈ xs.drop i, k < y.key) :
    (k < m.key → (∀ y ∈ (xs.take i ++ m :: xs.drop i).take i, y.key < k) ∧ ∀ y ∈ (xs.take i ++ m :: xs.drop i).drop i, k < y.key) ∧
    (m.key < k → (∀ y ∈ (xs.take i ++ m :: xs.drop i).take (i + 1), y.key < k) ∧ ∀ y ∈ (xs.take i ++ m :: xs.drop i).drop (i + 1), k < y.key) := by
  have hi : (xs.take i).length = i := by rw [List.length_take]; omega
  have e1 : (xs.take i ++ m :: xs.drop i).take i = xs.take i := by rw [List.take_append_of_le_length (by omega), List.take_take, Nat.min_self]
  have e2 : (xs.take i ++ m :: xs.drop i).drop i = m :: xs.drop i := by rw [List.drop_append_of_le_length (by omega), List.drop_of_length_le (by omega)]; rfl
  have e3 : (xs.take i ++ m :: xs.drop i).take (i + 1) = xs.take i ++ [m] := by rw [List.take_append, hi, List.take_of_length_le (by omega), show i + 1 - i = 1 by omega]; rfl
  have e4 : (xs.take i ++ m :: xs.drop i).drop (i + 1) = xs.drop i := by rw [← List.drop_drop, e2]; rfl
  rw [e1, e2, e3, e4]
  refine ⟨fun h => ⟨h1, fun y hy => ?_⟩, fun h => ⟨fun y hy => ?_, h2⟩⟩
  · rcases List.mem_cons.1 hy with rfl | hy
    · exact h
    · exact h2 y hy
  · rcases List.mem_append.1 hy with hy | hy
    · exact h1 y hy
    · rw [List.mem_singleton.1 hy]; exact h


/-! ### Where a key belongs -/
theorem split_at {xs : List EL} {h : Nat} {x : EL} (hx : xs[h]? = some x) : xs = xs.take h ++ x :: xs.drop (h + 1) := by
  obtain ⟨hl, hg⟩ := List.getElem?_eq_some_iff.1 hx
  rw [← hg, List.getElem_cons_drop, List.take_append_drop]
theorem take_next {xs : List EL} {h : Nat} {x : EL} (hx : xs[h]? = some x) : xs.take (h + 1) = xs.take h ++ [x] := by rw [List.take_add_one, hx]; rfl
theorem drop_here {xs : List EL} {h : Nat} {x : EL} (hx : xs[h]? = some x) : xs.drop h = x :: xs.drop (h + 1) := by
  obtain ⟨hl, hg⟩ := List.getElem?_eq_some_iff.1 hx
  rw [← hg, List.getElem_cons_drop]
theorem srt_lo {k : Int} {xs : List EL} {h : Nat} {x : EL} (hs : SrtE xs) (hx : xs[h]? = some x) (hk : ¬ k < x.key) : ∀ y ∈ xs.take (h + 1), ¬ k < y.key := by
  have e := split_at hx
  rw [e] at hs
  have q := (srt_at hs).1
  rw [take_next hx]
  intro y hy
  rcases List.mem_append.1 hy with hy | hy
  · have := q y hy; omega
  · rw [List.mem_singleton.1 hy]; exact hk
theorem srt_hi {k : Int} {xs : List EL} {h : Nat} {x : EL} (hs : SrtE xs) (hx : xs[h]? = some x) (hk : k < x.key) : ∀ y ∈ xs.drop h, k < y.key := by
  have e := split_at hx
  rw [e] at hs
  have q := (srt_at hs).2
  rw [drop_here hx]
  intro y hy
  rcases List.mem_cons.1 hy with rfl | hy
  · exact hk
  · have := q y hy; omega
theorem pl_yes {k : Int} {xs : List EL} {i : Nat} {x : EL} (hi : 0 < i) (hx : xs[i - 1]? = some x) (h1 : ∀ y ∈ xs.take i, ¬ k < y.key) (h2 : ¬ x.key < k) : PlE k xs (i - 1) true := by
  refine ⟨fun _ => ⟨x, hx, ?_⟩, fun h => by cases h⟩
  have hm : x ∈ xs.take i := by
    have := take_next hx
    rw [show i - 1 + 1 = i by omega] at this
    rw [this]; simp
  have := h1 x hm
  omega
theorem pl_no {k : Int} {xs : List EL} {i : Nat} (hs : SrtE xs) (hl : i ≤ xs.length) (h1 : ∀ y ∈ xs.take i, ¬ k < y.key) (h2 : ∀ y ∈ xs.drop i, k < y.key) (h3 : ∀ x, 0 < i → xs[i - 1]? = some x → x.key < k) : PlE k xs i false := by
  refine ⟨(fun h => by cases h), fun _ => ⟨hl, fun y hy => ?_, h2⟩⟩
  by_cases hi : 0 < i
  · have hx : xs[i - 1]? = some xs[i - 1] := List.getElem?_eq_getElem (by omega)
    have h4 := h3 _ hi hx
    have e := take_next hx
    rw [show i - 1 + 1 = i by omega] at e
    rw [e] at hy
    rcases List.mem_append.1 hy with hy | hy
    · have e2 := split_at hx
      rw [e2] at hs
      have := (srt_at hs).1 y hy
      omega
    · rw [List.mem_singleton.1 hy]; exact h4
  · have : i = 0 := by omega
    subst this; simp at hy
theorem cells_one {v : Value} (h : v.oneCell' = true) : v.cells = #[v] := by cases v <;> first | rfl | simp [Value.oneCell'] at h
section
variable {P : Program} {n : Nat} {e : Env} {w : World} {K : Value → World → Prop} {d : Option Nat} {ty : TypeId} {pos : String} {af : Array Edge} {g : Option (Nat × Bool)} {l : List SP}
theorem T_box1 {t : Nat} {x : Operand} {v : Value} (hx : ev n e x = v) (hv : v.oneCell' = true) (h : Holds w l) (k : ∀ b w', Same w w' → Holds w' (cl b t [v] :: l) → K (.pointer (some ⟨b, 0, none⟩)) w') :
    Stp P n e ⟨d, .box t x, ty, pos, af, g⟩ w K := T_box hx h (fun b w' s h' => k b w' s (by rw [cells_one hv] at h'; exact h'))
end


/-! ### Slices of one's own: what is moved within them -/
section
variable {P : Program} {n : Nat} {e : Env} {w : World} {K : Value → World → Prop} {d : Option Nat} {ty : TypeId} {pos : String} {af : Array Edge} {g : Option (Nat × Bool)} {l : List SP}
theorem mid_cell {pr xs sp : List Value} {b j k s : Nat} {v : Value} (h : ((xs.drop b).take k)[j]? = some v) (hs : s = pr.length + b) : (pr ++ xs ++ sp)[s + j]? = some v := by
  subst hs
  have hj := (List.getElem?_eq_some_iff.1 h).1
  rw [List.length_take, List.length_drop] at hj
  rw [List.getElem?_take, if_pos (by omega), List.getElem?_drop] at h
  rw [List.append_assoc, List.getElem?_append_right (by omega), show pr.length + b + j - pr.length = b + j by omega, List.getElem?_append_left (by omega), h]
theorem mid_put {pr xs sp ys : List Value} {a : Nat} (h : a + ys.length ≤ xs.length) : (pr ++ xs ++ sp).take (pr.length + a) ++ ys ++ (pr ++ xs ++ sp).drop (pr.length + a + ys.length) = pr ++ (xs.take a ++ ys ++ xs.drop (a + ys.length)) ++ sp := by
  have e1 : (pr ++ xs ++ sp).take (pr.length + a) = pr ++ xs.take a := by
    rw [List.append_assoc, List.take_append, List.take_of_length_le (by omega), show pr.length + a - pr.length = a by omega, List.take_append_of_le_length (by omega)]
  have e2 : (pr ++ xs ++ sp).drop (pr.length + a + ys.length) = xs.drop (a + ys.length) ++ sp := by
    rw [List.append_assoc, show pr.length + a + ys.length = pr.length + (a + ys.length) by omega, ← List.drop_drop, List.drop_left, List.drop_append_of_le_length h]
  rw [e1, e2]; simp
theorem slc_open {b off m cap a sz : Nat} (h : a < cap) : slc (.slice (some ⟨b, off, none⟩) m cap) a m sz = .slice (some ⟨b, off + a * sz, none⟩) (m - a) (cap - a) := by
  simp only [slc]
  rw [if_neg (by omega)]
  simp [add_mk]
theorem T_copySl {dT sT el sz bb T m a b k : Nat} {z : Option Value} {o1 o2 : Operand} {v : Value} {xs : List Value} (h1 : ev n e o1 = slc v a m sz) (h2 : ev n e o2 = slc v b m sz) (hu : P.underlying dT = some (.slice el)) (hz : tin P el = some (sz, bb, z))
    (h : Holds w l) (i : Nat) (hi : l[i]? = some (sl T sz v m xs)) (ha : a < m) (hb : b < m) (hk : Nat.min (m - b) (m - a) = k) (one : ∀ u ∈ xs, u.oneCell' = true)
    (kk : ∀ w', Same w w' → Holds w' (l.set i (sl T sz v m (xs.take (a * sz) ++ (xs.drop (b * sz)).take (k * sz) ++ xs.drop (a * sz + k * sz)))) → K (.int .i64 k) w') :
    Stp P n e ⟨d, .call { callee := .builtin .copy, args := #[o1, o2], argTypes := #[dT, sT] }, ty, pos, af, g⟩ w K := by
  obtain ⟨b', pr, sp, cap, hve, e2, e3, e4, hh⟩ := h.sl_open i hi (by omega)
  have hil : i < l.length := (List.getElem?_eq_some_iff.1 hi).1
  rw [hve, slc_open (by omega)] at h1 h2
  have hkm : k ≤ m - b ∧ k ≤ m - a := by subst hk; exact ⟨Nat.min_le_left _ _, Nat.min_le_right _ _⟩
  have m1 : b * sz + k * sz ≤ m * sz := by rw [← Nat.add_mul]; exact Nat.mul_le_mul_right _ (by omega)
  have m2 : a * sz + k * sz ≤ m * sz := by rw [← Nat.add_mul]; exact Nat.mul_le_mul_right _ (by omega)
  have hyl : ((xs.drop (b * sz)).take (k * sz)).length = k * sz := by rw [List.length_take, List.length_drop, e2]; omega
  refine T_copyK (T := T) (cs := pr ++ xs ++ sp) (ys := (xs.drop (b * sz)).take (k * sz)) h1 h2 hu hz hh i (by simp [hil]) hk hyl (fun j u hj => ?_) ?_ (fun u hu => one u (List.mem_of_mem_drop (List.mem_of_mem_take hu))) fun w' s h' => kk w' s ?_
  · exact hh.cl_cell i (b := b') (T := T) (cs := pr ++ xs ++ sp) (by simp [hil]) (mid_cell hj rfl)
  · simp only [List.length_append, hyl]; omega
  · rw [mid_put (by rw [hyl, e2]; exact m2)] at h'
    have h3 := Holds.to_sl (b := b') h' i pr sp (xs := xs.take (a * sz) ++ (xs.drop (b * sz)).take (k * sz) ++ xs.drop (a * sz + ((xs.drop (b * sz)).take (k * sz)).length)) (T := T) (sz := sz) (m := m) (cap := cap) (by simp [hil]) (by simp only [List.length_append, hyl, List.length_take, List.length_drop, e2]; omega) e3 e4
    rw [← hve, hyl] at h3
    simpa using h3
theorem Holds.sl_srcD (h : Holds w l) (i : Nat) {T sz m t e' a : Nat} {v : Value} {xs : List Value} (hi : l[i]? = some (sl T sz v m xs)) (ha : a ≤ m) (hk : P.underlying t = some (.slice e')) (h1 : ∀ u ∈ xs, u.oneCell' = true) :
    Src P sz t (slc v a m sz) (m - a) ((xs.drop (a * sz)).take ((m - a) * sz)) w :=
  ((h.sl_RSw i hi).slc ha (Nat.le_refl _)).src (Sub.rfl' _) hk (fun u hu => h1 u (List.mem_of_mem_drop (List.mem_of_mem_take hu)))
end
section
variable {P : Program} {n : Nat} {e : Env} {w : World} {K : Value → World → Prop} {d : Option Nat} {ty : TypeId} {pos : String} {af : Array Edge} {g : Option (Nat × Bool)} {l : List SP}
theorem T_copySlE {dT sT el sz bb T m a b k : Nat} {z : Option Value} {o1 o2 : Operand} {v : Value} {xs : List Value} (h1 : ev n e o1 = slc v a m sz) (h2 : ev n e o2 = slc v b m sz) (hu : P.underlying dT = some (.slice el)) (hz : tin P el = some (sz, bb, z))
    (h : Holds w l) (i : Nat) (hi : l[i]? = some (sl T sz v m xs)) (ha : a ≤ m) (hb : b < m) (hk : Nat.min (m - b) (m - a) = k) (one : ∀ u ∈ xs, u.oneCell' = true)
    (kk : ∀ w', Same w w' → Holds w' (l.set i (sl T sz v m (xs.take (a * sz) ++ (xs.drop (b * sz)).take (k * sz) ++ xs.drop (a * sz + k * sz)))) → K (.int .i64 k) w') :
    Stp P n e ⟨d, .call { callee := .builtin .copy, args := #[o1, o2], argTypes := #[dT, sT] }, ty, pos, af, g⟩ w K := by
  by_cases ham : a < m
  · exact T_copySl h1 h2 hu hz h i hi ham hb hk one kk
  obtain rfl : a = m := by omega
  obtain ⟨b', pr, sp, cap, hve, e2, e3, e4, hh⟩ := h.sl_open i hi (by omega)
  have hil : i < l.length := (List.getElem?_eq_some_iff.1 hi).1
  have hk0 : k = 0 := by
    have h9 : k ≤ a - a := hk ▸ Nat.min_le_right _ _
    omega
  subst hk0
  have h1' : ∃ o c', ev n e o1 = .slice (some ⟨b', o, none⟩) 0 c' ∧ o ≤ (pr ++ xs ++ sp).length := by
    rw [h1, hve]
    simp only [slc]
    by_cases hc : cap = a
    · exact ⟨pr.length, cap - a, by rw [if_pos hc, Nat.sub_self], by simp only [List.length_append]; omega⟩
    · exact ⟨pr.length + a * sz, cap - a, by rw [if_neg hc, Nat.sub_self]; simp [add_mk], by simp only [List.length_append]; omega⟩
  obtain ⟨o, c', h1', ho⟩ := h1'
  rw [hve, slc_open (by omega)] at h2
  refine T_copyK (T := T) (cs := pr ++ xs ++ sp) (ys := []) h1' h2 hu hz hh i (by simp [hil]) (k := 0) (by rwa [Nat.sub_self] at hk) (by simp) (fun j u hj => by simp at hj) (by simpa using ho) (fun u hu => by cases hu) fun w' s h' => kk w' s ?_
  rw [List.append_nil, List.length_nil, Nat.add_zero, List.take_append_drop] at h'
  have h3 := Holds.to_sl (b := b') h' i pr sp (xs := xs) (T := T) (sz := sz) (m := a) (cap := cap) (by simp [hil]) e2 e3 e4
  rw [← hve] at h3
  have e9 : xs.take (a * sz) ++ (xs.drop (b * sz)).take (0 * sz) ++ xs.drop (a * sz + 0 * sz) = xs := by rw [Nat.zero_mul, List.take_zero, List.append_nil, Nat.add_zero, List.take_append_drop]
  rw [e9]
  simpa using h3
end


section
variable {P : Program} {n : Nat} {e : Env} {w : World} {d : Option Nat} {ty : TypeId} {pos : String} {af : Array Edge} {g : Option (Nat × Bool)}
theorem x_eqP {t u te : TypeId} {x y : Operand} {p : Addr} {q : Nat × Nat × Option Value} (hx : ev n e x = .pointer (some p)) (hy : ev n e y = .pointer (some p)) (hu : P.underlying t = some (.pointer te)) (hz : tin P te = some q) :
    (execOp (ev n e) ⟨d, .binOp .eql t x y u, ty, pos, af, g⟩).run P w = .ok (.value (.bool true)) w := by
  simp only [execOp]
  rw [hx, hy]
  refine run_v _ ?_
  have h1 : (eqGuard .eql t x y (.pointer (some p)) (.pointer (some p))).run P w = .ok () w := by simp [eqGuard]
  obtain ⟨j, hj, -⟩ : ∃ j, P.info? te = some j ∧ True := by
    unfold tin at hz
    cases h : P.info? te with
    | none => rw [h] at hz; cases hz
    | some j => exact ⟨j, rfl, trivial⟩
  simp only [Sem.run_bind, h1, Result.andThen_ok]
  rw [run_eql_ptr_same w p hu hj]
end
end Go.Proofs.Ytdfjdmmmlidamaa
set_option linter.unusedVariables false
set_option linter.unusedSimpArgs false
namespace Go.Proofs.Ytdfjdmmmlidamaa
open Go Go.RowKit Gw Try
open Go.Value renaming int → vI, bool → vB, slice → vS, pointer → vP, agg → vA, tuple → vT

set_option maxHeartbeats 1600000 in
theorem btLess (R : HP) (x y : EL) :
    Tri Try.prog 16 #[(vA #[(vI .i64 x.key), (vI .i64 x.val)]), (vA #[(vI .i64 y.key), (vI .i64 y.val)])] R [] (fun v__ post__ => v__ = (vB (decide (x.key < y.key))) ∧ post__ = []) := by
 refine Tri.into (n := 10) (al := [(vA #[(vI .i64 x.key), (vI .i64 x.val)]), (vA #[(vI .i64 y.key), (vI .i64 y.val)])]) func16 rfl ntmps16 rfl rfl fun w F H => ?_
 refine cR fun _ hK1_ => ?_
 refine S_list (T_box (v := (vA #[(vI .i64 x.key), (vI .i64 x.val)])) rfl H ?_)
 intro b2_ w3_ S5_ H4_
 have S6_ := Same.trans (Same.refl w) S5_
 refine S_list (T_box (v := (vA #[(vI .i64 y.key), (vI .i64 y.val)])) rfl H4_ ?_)
 intro b7_ w8_ S10_ H9_
 have S11_ := Same.trans S6_ S10_
 refine sv (v := (vB false)) (x_assign rfl) ?_
 refine wn (hK1_ _ _ ?_)
 refine cR fun _ hK12_ => ?_
 refine sv (v := (vP (some ⟨b2_, 0, none⟩))) (by kernel_rfl) ?_
 refine sv (v := (vI .i64 x.key)) (x_load1 rfl underlying3 rfl ((Holds.rd H9_ 1 rfl) 0 (vI .i64 x.key) rfl)) ?_
 refine sv (v := (vP (some ⟨b7_, 0, none⟩))) (by kernel_rfl) ?_
 refine sv (v := (vI .i64 y.key)) (x_load1 rfl underlying3 rfl ((Holds.rd H9_ 0 rfl) 0 (vI .i64 y.key) rfl)) ?_
 refine sv (v := (vB (decide (x.key < y.key)))) (x_bin rfl rfl rfl) ?_
 refine sv (v := (vB (decide (x.key < y.key)))) (x_assign rfl) ?_
 refine wn (hK12_ _ _ ?_)
 refine C_ret ?_
 refine R_any (v := (vB (decide (x.key < y.key)))) (run_results1 rfl rfl) ?_
 have H13_ := Holds.pkF H9_ [2] 2
 exact ⟨_, _, rfl, ⟨rfl, rfl⟩, S11_, H13_⟩

set_option maxHeartbeats 1600000 in
theorem btFindC (R : HP) (bl bi bs i : Nat) (v : Value) (xs : List EL) (e : EL) (hi : i < xs.length) :
    Tri Try.prog 69 #[(vI .i64 (i : Int)), (vP (some ⟨bl, 0, none⟩)), (vP (some ⟨bi, 0, none⟩)), (vP (some ⟨bs, 0, none⟩))] R [cl bl 46 [(Value.func (.func 16) #[] #[])], cl bi 24 [(vI .i64 e.key), (vI .i64 e.val)], cl bs 76 [v], sl 24 2 v (List.length xs) (xs.flatMap EL.cells)] (fun v__ post__ => ∃ (x : EL), v__ = (vB (decide (e.key < x.key))) ∧ post__ = [cl bl 46 [(Value.func (.func 16) #[] #[])], cl bi 24 [(vI .i64 e.key), (vI .i64 e.val)], cl bs 76 [v], sl 24 2 v (List.length xs) (xs.flatMap EL.cells)] ∧ (xs[i]? = some x)) := by
 refine Tri.into (n := 13) (al := [(vI .i64 (i : Int)), (vP (some ⟨bl, 0, none⟩)), (vP (some ⟨bi, 0, none⟩)), (vP (some ⟨bs, 0, none⟩))]) func69 rfl ntmps69 rfl rfl fun w F H => ?_
 refine cR fun _ hK1_ => ?_
 refine sv (v := (vB false)) (x_assign rfl) ?_
 refine wn (hK1_ _ _ ?_)
 refine C_seq (fun _ hK2_ => ?_)
 refine A_start (S := fun w => Rd bl [(Value.func (.func 16) #[] #[])] w ∧ Rd bi [(vI .i64 e.key), (vI .i64 e.val)] w ∧ Rd bs [v] w ∧ SlRd v (xs.flatMap EL.cells) w ∧ Sub R (hp w)) (N := 8) foll rfl rfl ?_
 have H3_ := Holds.drew_ H
 have hq4_ := And.intro (Holds.rd H3_ 1 rfl) (And.intro (Holds.rd H3_ 2 rfl) (And.intro (Holds.rd H3_ 3 rfl) (And.intro (Holds.slrd H3_ 4 rfl) ((Holds.ro_at H3_ 0 rfl)))))
 refine A_tk 0 (v := (Value.func (.func 16) #[] #[])) rfl (by kernel_rfl) (fun w hS => x_load1 rfl underlying46 rfl (hS.1 0 (Value.func (.func 16) #[] #[]) rfl)) hq4_ ?_
 refine A_tk 1 (v := (vA #[(vI .i64 e.key), (vI .i64 e.val)])) rfl (by kernel_rfl) (fun w hS => x_loadN (vs := [(vI .i64 e.key), (vI .i64 e.val)]) rfl underlying24 rfl z24 rfl (Rd.cells hS.2.1 0 rfl)) hq4_ ?_
 refine A_tk 2 (v := v) rfl (by kernel_rfl) (fun w hS => x_load1 rfl underlying76 rfl (hS.2.2.1 0 v rfl)) hq4_ ?_
 refine A_tk 3 (v := (vI .i64 (i : Int))) rfl (by kernel_rfl) (fun w hS => x_move rfl) hq4_ ?_
 have hr5_ := Holds.sl_RSw H3_ 4 rfl
 refine A_tk 4 (v := (vP (some ⟨(sb v), so v + (i * 2 + 0), none⟩))) rfl (by kernel_rfl) (fun w hS => x_idxSlR (v := v) rfl hr5_ rfl underlying76 z24 (by omega) (by omega) (by omega : _ = i) rfl) hq4_ ?_
 obtain ⟨x6_, hx7_, hm8_⟩ := elem_at xs i (by omega)
 refine A_tk 5 (v := (vA #[(vI .i64 x6_.key), (vI .i64 x6_.val)])) rfl (by kernel_rfl) (fun w hS => x_loadN (vs := [(vI .i64 x6_.key), (vI .i64 x6_.val)]) rfl underlying24 rfl z24 rfl (SlRd.cells hS.2.2.2.1 (i * 2 + 0) (fm_cells EL.len hx7_ (i := 0) rfl))) hq4_ ?_
 refine A_ready (i := 6) (rs := []) (by kernel_rfl) ?_
 refine AllR.cons ?_ AllR.nil
 refine A_op (ls' := #[true, true, true, true, true, true, true, false]) rfl (by kernel_rfl) (T_call (al := [(vA #[(vI .i64 e.key), (vI .i64 e.val)]), (vA #[(vI .i64 x6_.key), (vI .i64 x6_.val)])]) (pre := []) rfl rfl cb16 (btLess R e x6_) H3_ ?_)
 rintro v9_ p13_ w10_ ⟨rfl, rfl⟩ S12_ H11_
 have S14_ := Same.trans (Same.trans (Same.refl w) (Same.drew _)) S12_
 refine ⟨⟨Holds.rd H11_ 1 rfl, Holds.rd H11_ 2 rfl, Holds.rd H11_ 3 rfl, Holds.slrd H11_ 4 rfl, (Holds.ro_at H11_ 0 rfl)⟩, ?_⟩
 have hq15_ := And.intro (Holds.rd H11_ 1 rfl) (And.intro (Holds.rd H11_ 2 rfl) (And.intro (Holds.rd H11_ 3 rfl) (And.intro (Holds.slrd H11_ 4 rfl) ((Holds.ro_at H11_ 0 rfl)))))
 refine A_tk 7 (v := (vB (decide (e.key < x6_.key)))) rfl (by kernel_rfl) (fun w hS => x_assign rfl) hq15_ ?_
 refine A_done (by kernel_rfl) ?_
 refine (X_then (hK2_ _ _ ?_))
 refine C_ret ?_
 refine R_any (v := (vB (decide (e.key < x6_.key)))) (run_results1 rfl rfl) ?_
 exact ⟨_, _, rfl, ⟨x6_, rfl, rfl, (hx7_)⟩, S14_, H11_⟩

set_option maxHeartbeats 1600000 in
theorem btSearch (R : HP) (bl bi bs : Nat) (v : Value) (xs : List EL) (e : EL) (hs : SrtE xs) (hn : xs.length ≤ 1000000) :
    Tri Try.prog 68 #[(vI .i64 (List.length xs : Int)), (Value.func (.func 69) #[] #[(vP (some ⟨bl, 0, none⟩)), (vP (some ⟨bi, 0, none⟩)), (vP (some ⟨bs, 0, none⟩))])] R [cl bl 46 [(Value.func (.func 16) #[] #[])], cl bi 24 [(vI .i64 e.key), (vI .i64 e.val)], cl bs 76 [v], sl 24 2 v (List.length xs) (xs.flatMap EL.cells)] (fun v__ post__ => ∃ (i : Nat), v__ = (vI .i64 (i : Int)) ∧ post__ = [cl bl 46 [(Value.func (.func 16) #[] #[])], cl bi 24 [(vI .i64 e.key), (vI .i64 e.val)], cl bs 76 [v], sl 24 2 v (List.length xs) (xs.flatMap EL.cells)] ∧ (i ≤ xs.length) ∧ (∀ y ∈ xs.take i, ¬ e.key < y.key) ∧ (∀ y ∈ xs.drop i, e.key < y.key)) := by
 refine Tri.into (n := 26) (al := [(vI .i64 (List.length xs : Int)), (Value.func (.func 69) #[] #[(vP (some ⟨bl, 0, none⟩)), (vP (some ⟨bi, 0, none⟩)), (vP (some ⟨bs, 0, none⟩))])]) func68 rfl ntmps68 rfl rfl fun w F H => ?_
 refine cR fun _ hK1_ => ?_
 refine sv (v := (vI .i64 0)) (x_assign rfl) ?_
 refine wn (hK1_ _ _ ?_)
 refine cR fun _ hK2_ => ?_
 refine sm (vI .i64 (List.length xs : Int)) ?_
 refine sv (v := (vI .i64 0)) (x_assign rfl) ?_
 refine sv (v := (vI .i64 (List.length xs : Int))) (x_assign rfl) ?_
 refine wn (hK2_ _ _ ?_)
 refine C_seq (fun _ hK3_ => ?_)
 refine C_block ?_
 refine C_loop (γ := Nat × Nat) (fun x__ a__ w1__ => match x__ with | ⟨a, b⟩ => ∃ h : Env, a__ = mkA 26 (upd (upd (upd (upd h 1 (Value.func (.func 69) #[] #[(vP (some ⟨bl, 0, none⟩)), (vP (some ⟨bi, 0, none⟩)), (vP (some ⟨bs, 0, none⟩))])) 4 (vI .i64 0)) 5 (vI .i64 (a : Int))) 6 (vI .i64 (b : Int))) [] ∧ Holds w1__ (ro R :: cl bl 46 [(Value.func (.func 16) #[] #[])] :: cl bi 24 [(vI .i64 e.key), (vI .i64 e.val)] :: cl bs 76 [v] :: sl 24 2 v (List.length xs) (xs.flatMap EL.cells) :: F) ∧ Same w w1__ ∧ (a ≤ b) ∧ (b ≤ xs.length) ∧ (∀ y ∈ xs.take a, ¬ e.key < y.key) ∧ (∀ y ∈ xs.drop b, e.key < y.key)) (fun x__ => match x__ with | ⟨a, b⟩ => b - a) (⟨0, xs.length⟩) ⟨_, congrArg (fun e => mkA 26 e []) (ch (ch (ch (ch rfl rfl) rfl) (congrArg (vI .i64) ((by first | rfl | omega | (simp; done) | (simp; omega)) : 0 = (0 : Int)))) (congrArg (vI .i64) ((by first | rfl | omega | (simp; done) | (simp; omega)) : (List.length xs : Int) = (xs.length : Int)))), H, (Same.refl w), (Nat.zero_le _), (Nat.le_refl _), (fun y hy => by simp at hy), (fun y hy => by simp at hy)⟩ ?_
 rintro ⟨a, b⟩ _ w4_ ⟨h, rfl, H5_, S6_, hab, hb, hlo, hhi⟩
 refine C_seq (fun _ hK7_ => ?_)
 refine cR fun _ hK8_ => ?_
 refine sm (vI .i64 (a : Int)) ?_
 refine sm (vI .i64 (b : Int)) ?_
 refine sv (v := (vB (decide ((a : Int) < (b : Int))))) (x_bin rfl rfl rfl) ?_
 refine wn (hK8_ _ _ ?_)
 refine C_cond (b := decide ((a : Int) < (b : Int))) rfl (fun c9_t => ?_) (fun c9_f => ?_)
 ·have c9_tp : (a : Int) < (b : Int) := of_decide_eq_true c9_t
  refine C_skip (X_then (hK7_ _ _ ?_))
  refine C_block ?_
  refine cR fun _ hK10_ => ?_
  refine sm (vI .i64 (a : Int)) ?_
  refine sm (vI .i64 (b : Int)) ?_
  refine sv (v := (vI .i64 ((a : Int) + (b : Int)))) (x_bin rfl rfl (ib_add (IntWalk.i64_in _ (by omega)))) ?_
  refine sv (v := (vI .u64 ((a : Int) + (b : Int)))) (x_convI rfl underlying3 underlying118 (IntWalk.u64_in _ (by omega))) ?_
  refine sv (v := (vI .u64 (((a : Int) + (b : Int)) / 2))) (x_shr rfl rfl (by omega) (shrN (by decide) (by decide))) ?_
  refine sv (v := (vI .i64 (((a + b) / 2 : Nat) : Int))) (x_convI rfl underlying118 underlying3 (by rw [IntWalk.i64_in _ (by omega)]; omega)) ?_
  refine sv (v := (vI .i64 (((a + b) / 2 : Nat) : Int))) (x_assign rfl) ?_
  refine wn (hK10_ _ _ ?_)
  refine cR fun _ hK11_ => ?_
  refine sm (Value.func (.func 69) #[] #[(vP (some ⟨bl, 0, none⟩)), (vP (some ⟨bi, 0, none⟩)), (vP (some ⟨bs, 0, none⟩))]) ?_
  refine sv (v := (vI .i64 (((a + b) / 2 : Nat) : Int))) (x_move rfl) ?_
  refine S_list (T_call (al := [(vI .i64 (((a + b) / 2 : Nat) : Int)), (vP (some ⟨bl, 0, none⟩)), (vP (some ⟨bi, 0, none⟩)), (vP (some ⟨bs, 0, none⟩))]) (pre := [cl bl 46 [(Value.func (.func 16) #[] #[])], cl bi 24 [(vI .i64 e.key), (vI .i64 e.val)], cl bs 76 [v], sl 24 2 v (List.length xs) (xs.flatMap EL.cells)]) rfl rfl cb69 (btFindC R bl bi bs ((a + b) / 2) v xs e (by omega)) H5_ ?_)
  rintro v12_ p18_ w15_ ⟨x13_, rfl, rfl, he14_⟩ S17_ H16_
  have S19_ := Same.trans S6_ S17_
  refine sv (v := (vB (decide (¬ (e.key < x13_.key))))) (x_notP rfl) ?_
  refine wn (hK11_ _ _ ?_)
  refine C_cond (b := decide (¬ (e.key < x13_.key))) rfl (fun c20_t => ?_) (fun c20_f => ?_)
  ·have c20_tp : ¬ (e.key < x13_.key) := of_decide_eq_true c20_t
   refine C_reg ?_
   refine sv (v := (vI .i64 (((a + b) / 2 : Nat) : Int))) (x_move rfl) ?_
   refine sv (v := (vI .i64 ((((a + b) / 2 : Nat) : Int) + 1))) (x_bin rfl rfl (ib_add (IntWalk.i64_in _ (by omega)))) ?_
   refine sv (v := (vI .i64 ((((a + b) / 2 : Nat) : Int) + 1))) (x_assign rfl) ?_
   refine wpList_nil (X_blkN (X_then ?_))
   exact ⟨⟨((a + b) / 2) + 1, b⟩, ⟨_, congrArg (fun e => mkA 26 e []) (ch (ch (ch (ch rfl rfl) rfl) (congrArg (vI .i64) ((by first | rfl | omega | (simp; done) | (simp; omega)) : (((a + b) / 2 : Nat) : Int) + 1 = ((((a + b) / 2) + 1 : Nat) : Int)))) rfl), H16_, S19_, (by omega), (by omega), (srt_lo hs he14_ (by omega)), (hhi)⟩, by first | omega | (dsimp only; omega) | (simp; omega)⟩
  ·have c20_fp : ¬ (¬ (e.key < x13_.key)) := of_decide_eq_false c20_f
   refine C_reg ?_
   refine sv (v := (vI .i64 (((a + b) / 2 : Nat) : Int))) (x_move rfl) ?_
   refine sv (v := (vI .i64 (((a + b) / 2 : Nat) : Int))) (x_assign rfl) ?_
   refine wpList_nil (X_blkN (X_then ?_))
   exact ⟨⟨a, ((a + b) / 2)⟩, ⟨_, congrArg (fun e => mkA 26 e []) (ch (ch (ch (ch rfl rfl) rfl) rfl) rfl), H16_, S19_, (by omega), (by omega), (hlo), (srt_hi hs he14_ (by omega))⟩, by first | omega | (dsimp only; omega) | (simp; omega)⟩
 ·have c9_fp : ¬ ((a : Int) < (b : Int)) := of_decide_eq_false c9_f
  refine C_exit (X_thenX (X_thenX (X_blkHit ?_)))
  refine (X_then (hK3_ _ _ ?_))
  refine cR fun _ hK21_ => ?_
  refine sm (vI .i64 (a : Int)) ?_
  refine sv (v := (vI .i64 (a : Int))) (x_assign rfl) ?_
  refine wn (hK21_ _ _ ?_)
  refine C_ret ?_
  refine R_any (v := (vI .i64 (a : Int))) (run_results1 rfl rfl) ?_
  exact ⟨_, _, rfl, ⟨a, rfl, rfl, (by omega), (hlo), (by rw [show a = b by omega]; exact hhi)⟩, S6_, H5_⟩

set_option maxHeartbeats 1600000 in
theorem btFind (R : HP) (v : Value) (xs : List EL) (e : EL) (hs : SrtE xs) (hn : xs.length ≤ 1000000) :
    Tri Try.prog 56 #[v, (vA #[(vI .i64 e.key), (vI .i64 e.val)]), (Value.func (.func 16) #[] #[])] R [sl 24 2 v (List.length xs) (xs.flatMap EL.cells)] (fun v__ post__ => ∃ (i : Nat) (b : Bool), v__ = (vT #[(vI .i64 (i : Int)), (vB b)]) ∧ post__ = [sl 24 2 v (List.length xs) (xs.flatMap EL.cells)] ∧ (PlE e.key xs i b)) := by
 refine Tri.into (n := 29) (al := [v, (vA #[(vI .i64 e.key), (vI .i64 e.val)]), (Value.func (.func 16) #[] #[])]) func56 rfl ntmps56 rfl rfl fun w F H => ?_
 refine cR fun _ hK1_ => ?_
 refine S_list (T_box1 (v := v) rfl (Holds.sl_one H 1 rfl) H ?_)
 intro b2_ w3_ S5_ H4_
 have S6_ := Same.trans (Same.refl w) S5_
 refine S_list (T_box (v := (vA #[(vI .i64 e.key), (vI .i64 e.val)])) rfl H4_ ?_)
 intro b7_ w8_ S10_ H9_
 have S11_ := Same.trans S6_ S10_
 refine S_list (T_box (v := (Value.func (.func 16) #[] #[])) rfl H9_ ?_)
 intro b12_ w13_ S15_ H14_
 have S16_ := Same.trans S11_ S15_
 refine sv (v := (vI .i64 0)) (x_assign rfl) ?_
 refine sv (v := (vB false)) (x_assign rfl) ?_
 refine wn (hK1_ _ _ ?_)
 refine cR fun _ hK17_ => ?_
 refine sv (v := v) (x_load1 rfl underlying76 rfl ((Holds.rd H14_ 2 rfl) 0 v rfl)) ?_
 refine sv (v := (vI .i64 ((List.length xs) : Int))) (x_lenSl rfl H14_ 4 rfl underlying76) ?_
 refine sv (v := (Value.func (.func 69) #[] #[(vP (some ⟨b12_, 0, none⟩)), (vP (some ⟨b7_, 0, none⟩)), (vP (some ⟨b2_, 0, none⟩))])) (by kernel_rfl) ?_
 have H23_ := ((Holds.bring (Holds.bring (Holds.bring (Holds.bring (Holds.bring H14_ 4 rfl) 3 rfl) 3 rfl) 3 rfl) 4 rfl) :)
 refine S_list (T_call (al := [(vI .i64 (List.length xs : Int)), (Value.func (.func 69) #[] #[(vP (some ⟨b12_, 0, none⟩)), (vP (some ⟨b7_, 0, none⟩)), (vP (some ⟨b2_, 0, none⟩))])]) (pre := [cl b12_ 46 [(Value.func (.func 16) #[] #[])], cl b7_ 24 [(vI .i64 e.key), (vI .i64 e.val)], cl b2_ 76 [v], sl 24 2 v (List.length xs) (xs.flatMap EL.cells)]) rfl (lcons (congrArg (vI .i64) ((by first | rfl | omega | (simp; done) | (simp; omega)) : ((List.length xs) : Int) = (List.length xs : Int))) rfl) cb68 (btSearch R b12_ b7_ b2_ v xs e (by first | assumption | omega) (by first | assumption | omega)) H23_ ?_)
 rintro v18_ p27_ w24_ ⟨i19_, rfl, rfl, he20_, he21_, he22_⟩ S26_ H25_
 have S28_ := Same.trans S16_ S26_
 refine sv (v := (vI .i64 (i19_ : Int))) (x_assign rfl) ?_
 refine wn (hK17_ _ _ ?_)
 refine C_seq (fun _ hK29_ => ?_)
 refine C_seq (fun _ hK30_ => ?_)
 refine A_start (S := fun w => Rd b12_ [(Value.func (.func 16) #[] #[])] w ∧ Rd b7_ [(vI .i64 e.key), (vI .i64 e.val)] w ∧ Rd b2_ [v] w ∧ SlRd v (xs.flatMap EL.cells) w ∧ Sub R (hp w)) (N := 13) foll rfl rfl ?_
 have H31_ := Holds.drew_ H25_
 have hq32_ := And.intro (Holds.rd H31_ 1 rfl) (And.intro (Holds.rd H31_ 2 rfl) (And.intro (Holds.rd H31_ 3 rfl) (And.intro (Holds.slrd H31_ 4 rfl) ((Holds.ro_at H31_ 0 rfl)))))
 refine A_tk 0 (v := (vI .i64 (i19_ : Int))) rfl (by kernel_rfl) (fun w hS => x_move rfl) hq32_ ?_
 refine A_tk 1 (v := (vB (decide (0 < (i19_ : Int))))) rfl (by kernel_rfl) (fun w hS => x_bin rfl rfl rfl) hq32_ ?_
 refine A_tk 2 (v := (vB (decide (0 < (i19_ : Int))))) rfl (by kernel_rfl) (fun w hS => x_move rfl) hq32_ ?_
 rcases Bool.eq_false_or_eq_true (decide (0 < (i19_ : Int))) with c33_t | c33_f
 ·have c33_tp : 0 < (i19_ : Int) := of_decide_eq_true c33_t
  refine A_tkY 3 (j := 2) (dj := 15) (b := true) (v := (Value.func (.func 16) #[] #[])) rfl (by kernel_rfl) rfl rfl (congrArg vB c33_t) (fun w hS => x_load1 rfl underlying46 rfl (hS.1 0 (Value.func (.func 16) #[] #[]) rfl)) hq32_ ?_
  refine A_tkY 4 (j := 2) (dj := 15) (b := true) (v := v) rfl (by kernel_rfl) rfl rfl (congrArg vB c33_t) (fun w hS => x_load1 rfl underlying76 rfl (hS.2.2.1 0 v rfl)) hq32_ ?_
  refine A_tkY 5 (j := 2) (dj := 15) (b := true) (v := (vI .i64 (i19_ : Int))) rfl (by kernel_rfl) rfl rfl (congrArg vB c33_t) (fun w hS => x_move rfl) hq32_ ?_
  refine A_tkY 6 (j := 2) (dj := 15) (b := true) (v := (vI .i64 ((i19_ : Int) - 1))) rfl (by kernel_rfl) rfl rfl (congrArg vB c33_t) (fun w hS => x_bin rfl rfl (ib_sub (IntWalk.i64_in _ (by omega)))) hq32_ ?_
  have hr34_ := Holds.sl_RSw H31_ 4 rfl
  refine A_tkY 7 (j := 2) (dj := 15) (b := true) (v := (vP (some ⟨(sb v), so v + ((i19_ - 1) * 2 + 0), none⟩))) rfl (by kernel_rfl) rfl rfl (congrArg vB c33_t) (fun w hS => x_idxSlR (v := v) rfl hr34_ rfl underlying76 z24 (by omega) (by omega) (by omega : _ = (i19_ - 1)) rfl) hq32_ ?_
  obtain ⟨x35_, hx36_, hm37_⟩ := elem_at xs (i19_ - 1) (by omega)
  refine A_tkY 8 (j := 2) (dj := 15) (b := true) (v := (vA #[(vI .i64 x35_.key), (vI .i64 x35_.val)])) rfl (by kernel_rfl) rfl rfl (congrArg vB c33_t) (fun w hS => x_loadN (vs := [(vI .i64 x35_.key), (vI .i64 x35_.val)]) rfl underlying24 rfl z24 rfl (SlRd.cells hS.2.2.2.1 ((i19_ - 1) * 2 + 0) (fm_cells EL.len hx36_ (i := 0) rfl))) hq32_ ?_
  refine A_tkY 9 (j := 2) (dj := 15) (b := true) (v := (vA #[(vI .i64 e.key), (vI .i64 e.val)])) rfl (by kernel_rfl) rfl rfl (congrArg vB c33_t) (fun w hS => x_loadN (vs := [(vI .i64 e.key), (vI .i64 e.val)]) rfl underlying24 rfl z24 rfl (Rd.cells hS.2.1 0 rfl)) hq32_ ?_
  refine A_ready (i := 10) (rs := []) (by kernel_rfl) ?_
  refine AllR.cons ?_ AllR.nil
  refine A_opYes (ls' := #[true, true, true, true, true, true, true, true, true, true, true, false, false]) (j := 2) (dj := 15) (b := true) rfl (by kernel_rfl) rfl rfl (congrArg vB c33_t) (T_call (al := [(vA #[(vI .i64 x35_.key), (vI .i64 x35_.val)]), (vA #[(vI .i64 e.key), (vI .i64 e.val)])]) (pre := []) rfl rfl cb16 (btLess R x35_ e) H31_ ?_)
  rintro v38_ p42_ w39_ ⟨rfl, rfl⟩ S41_ H40_
  have S43_ := Same.trans (Same.trans S28_ (Same.drew _)) S41_
  refine ⟨⟨Holds.rd H40_ 1 rfl, Holds.rd H40_ 2 rfl, Holds.rd H40_ 3 rfl, Holds.slrd H40_ 4 rfl, (Holds.ro_at H40_ 0 rfl)⟩, ?_⟩
  have hq44_ := And.intro (Holds.rd H40_ 1 rfl) (And.intro (Holds.rd H40_ 2 rfl) (And.intro (Holds.rd H40_ 3 rfl) (And.intro (Holds.slrd H40_ 4 rfl) ((Holds.ro_at H40_ 0 rfl)))))
  refine A_tkY 11 (j := 2) (dj := 15) (b := true) (v := (vB (decide (¬ (x35_.key < e.key))))) rfl (by kernel_rfl) rfl rfl (congrArg vB c33_t) (fun w hS => x_notP rfl) hq44_ ?_
  refine A_tk 12 (v := (vB (decide (¬ (x35_.key < e.key))))) rfl (by kernel_rfl) (fun w hS => (x_pickT (congrArg vB c33_t) rfl)) hq44_ ?_
  refine A_done (by kernel_rfl) ?_
  refine (X_then (hK30_ _ _ ?_))
  refine C_cond (b := decide (¬ (x35_.key < e.key))) rfl (fun c45_t => ?_) (fun c45_f => ?_)
  ·have c45_tp : ¬ (x35_.key < e.key) := of_decide_eq_true c45_t
   refine cR fun _ hK46_ => ?_
   refine sm (vI .i64 (i19_ : Int)) ?_
   refine sv (v := (vI .i64 ((i19_ : Int) - 1))) (x_bin rfl rfl (ib_sub (IntWalk.i64_in _ (by omega)))) ?_
   refine sv (v := (vI .i64 ((i19_ : Int) - 1))) (x_assign rfl) ?_
   refine sv (v := (vB true)) (x_assign rfl) ?_
   refine wn (hK46_ _ _ ?_)
   refine C_ret (X_thenR ?_)
   refine R_any (v := (vT #[(vI .i64 ((i19_ : Int) - 1)), (vB true)])) (run_results2 rfl rfl rfl) ?_
   have H47_ := Holds.pkF H40_ [0, 3] 3
   exact ⟨_, _, rfl, ⟨(i19_ - 1), true, (congrArg (fun l => vT (List.toArray l)) (lcons (congrArg (vI .i64) ((by first | rfl | omega | (simp; done) | (simp; omega)) : (i19_ : Int) - 1 = ((i19_ - 1 : Nat) : Int))) rfl)), rfl, (pl_yes (by omega) hx36_ he21_ (by simp_all))⟩, S43_, H47_⟩
  ·have c45_fp : ¬ (¬ (x35_.key < e.key)) := of_decide_eq_false c45_f
   refine C_skip (X_then (hK29_ _ _ ?_))
   refine cR fun _ hK48_ => ?_
   refine sm (vI .i64 (i19_ : Int)) ?_
   refine sv (v := (vI .i64 (i19_ : Int))) (x_assign rfl) ?_
   refine sv (v := (vB false)) (x_assign rfl) ?_
   refine wn (hK48_ _ _ ?_)
   refine C_ret ?_
   refine R_any (v := (vT #[(vI .i64 (i19_ : Int)), (vB false)])) (run_results2 rfl rfl rfl) ?_
   have H49_ := Holds.pkF H40_ [0, 3] 3
   exact ⟨_, _, rfl, ⟨i19_, false, rfl, rfl, (pl_no hs he20_ he21_ he22_ fun y hy hy2 => by rw [hx36_] at hy2; cases hy2; simp_all)⟩, S43_, H49_⟩
 ·have c33_fp : ¬ (0 < (i19_ : Int)) := of_decide_eq_false c33_f
  refine A_tkN 3 (j := 2) (dj := 15) (b := false) rfl (by kernel_rfl) rfl rfl (congrArg vB c33_f) (by decide) hq32_ ?_
  refine A_tkN 4 (j := 2) (dj := 15) (b := false) rfl (by kernel_rfl) rfl rfl (congrArg vB c33_f) (by decide) hq32_ ?_
  refine A_tkN 5 (j := 2) (dj := 15) (b := false) rfl (by kernel_rfl) rfl rfl (congrArg vB c33_f) (by decide) hq32_ ?_
  refine A_tkN 6 (j := 2) (dj := 15) (b := false) rfl (by kernel_rfl) rfl rfl (congrArg vB c33_f) (by decide) hq32_ ?_
  refine A_tkN 7 (j := 2) (dj := 15) (b := false) rfl (by kernel_rfl) rfl rfl (congrArg vB c33_f) (by decide) hq32_ ?_
  refine A_tkN 8 (j := 2) (dj := 15) (b := false) rfl (by kernel_rfl) rfl rfl (congrArg vB c33_f) (by decide) hq32_ ?_
  refine A_tkN 9 (j := 2) (dj := 15) (b := false) rfl (by kernel_rfl) rfl rfl (congrArg vB c33_f) (by decide) hq32_ ?_
  refine A_tkN 10 (j := 2) (dj := 15) (b := false) rfl (by kernel_rfl) rfl rfl (congrArg vB c33_f) (by decide) hq32_ ?_
  refine A_tkN 11 (j := 2) (dj := 15) (b := false) rfl (by kernel_rfl) rfl rfl (congrArg vB c33_f) (by decide) hq32_ ?_
  refine A_tk 12 (v := (vB false)) rfl (by kernel_rfl) (fun w hS => (x_pickF (congrArg vB c33_f) rfl)) hq32_ ?_
  refine A_done (by kernel_rfl) ?_
  refine (X_then (hK30_ _ _ ?_))
  refine C_condF rfl ?_
  refine C_skip (X_then (hK29_ _ _ ?_))
  refine cR fun _ hK50_ => ?_
  refine sm (vI .i64 (i19_ : Int)) ?_
  refine sv (v := (vI .i64 (i19_ : Int))) (x_assign rfl) ?_
  refine sv (v := (vB false)) (x_assign rfl) ?_
  refine wn (hK50_ _ _ ?_)
  refine C_ret ?_
  refine R_any (v := (vT #[(vI .i64 (i19_ : Int)), (vB false)])) (run_results2 rfl rfl rfl) ?_
  have H51_ := Holds.pkF H31_ [0, 3] 3
  exact ⟨_, _, rfl, ⟨i19_, false, rfl, rfl, (pl_no hs he20_ he21_ he22_ fun y hy hy2 => by omega)⟩, (Same.trans S28_ (Same.drew _)), H51_⟩
end Go.Proofs.Ytdfjdmmmlidamaa
set_option linter.unusedVariables false
set_option linter.unusedSimpArgs false
namespace Go.Proofs.Ytdfjdmmmlidamaa
open Go Go.RowKit Gw Try
open Go.Value renaming int → vI, bool → vB, slice → vS, pointer → vP, agg → vA, tuple → vT

/-! ### Rows of records: what is moved and put in -/
section
variable {α : Type} {f : α → List Value} {n : Nat}
theorem fr_len (hn : ∀ x, (f x).length = n) (l : List α) : (l.flatMap f).length = l.length * n := fm_len hn l
theorem fr_take (hn : ∀ x, (f x).length = n) : ∀ (l : List α) (k : Nat), (l.flatMap f).take (k * n) = (l.take k).flatMap f
  | [], k => by simp
  | x :: l, 0 => by simp
  | x :: l, k + 1 => by
    rw [List.flatMap_cons, List.take_succ_cons, List.flatMap_cons, Nat.add_mul, Nat.one_mul, Nat.add_comm, List.take_append, hn, List.take_of_length_le (by rw [hn]; omega), show n + k * n - n = k * n by omega, fr_take hn l k]
theorem fr_drop (hn : ∀ x, (f x).length = n) : ∀ (l : List α) (k : Nat), (l.flatMap f).drop (k * n) = (l.drop k).flatMap f
  | [], k => by simp
  | x :: l, 0 => by simp
  | x :: l, k + 1 => by
    rw [List.flatMap_cons, List.drop_succ_cons, Nat.add_mul, Nat.one_mul, Nat.add_comm, List.drop_append, hn, List.drop_of_length_le (by rw [hn]; omega), show n + k * n - n = k * n by omega, fr_drop hn l k, List.nil_append]
theorem ins_row (hn : ∀ x, (f x).length = n) {z : List Value} (hz : z.length = n) {xs : List α} {e : α} {i k : Nat} (hi : i ≤ xs.length) (hk : k = xs.length - i) {X C : List Value} (hX : X = xs.flatMap f ++ z)
    (hC : C = X.take ((i + 1) * n) ++ (X.drop (i * n)).take (k * n) ++ X.drop ((i + 1) * n + k * n)) : C.take (i * n) ++ f e ++ C.drop (i * n + n) = (xs.take i ++ e :: xs.drop i).flatMap f := by
  have hl : (xs.flatMap f).length = xs.length * n := fr_len hn xs
  have e0 : (i + 1) * n = i * n + n := by rw [Nat.add_mul, Nat.one_mul]
  have e1 : i * n + k * n = xs.length * n := by rw [← Nat.add_mul]; congr 1; omega
  have hXl : X.length = xs.length * n + n := by rw [hX, List.length_append, hl, hz]
  have d1 : X.drop ((i + 1) * n + k * n) = [] := List.drop_of_length_le (by omega)
  have d2 : (X.drop (i * n)).take (k * n) = (xs.drop i).flatMap f := by
    rw [hX, List.drop_append_of_le_length (by omega), fr_drop hn, List.take_append_of_le_length (by rw [fr_len hn, List.length_drop, hk]; exact Nat.le_refl _), List.take_of_length_le (by rw [fr_len hn, List.length_drop, hk]; exact Nat.le_refl _)]
  have ht : (X.take ((i + 1) * n)).length = i * n + n := by rw [List.length_take]; omega
  have c1 : C.take (i * n) = (xs.take i).flatMap f := by
    rw [hC, d1, List.append_nil, List.take_append_of_le_length (by omega), List.take_take, Nat.min_eq_left (by omega), hX, List.take_append_of_le_length (by omega), fr_take hn]
  have c2 : C.drop (i * n + n) = (xs.drop i).flatMap f := by
    rw [hC, d1, List.append_nil, d2, List.drop_append_of_le_length (by omega), List.drop_of_length_le (by omega), List.nil_append]
  rw [c1, c2, List.flatMap_append, List.flatMap_cons, List.append_assoc]
end
theorem el_put {xs : List EL} {i : Nat} {x e : EL} (h : xs[i]? = some x) : (xs.flatMap EL.cells).take (i * 2) ++ EL.cells e ++ (xs.flatMap EL.cells).drop (i * 2 + 2) = (xs.set i e).flatMap EL.cells := by
  have hl := (List.getElem?_eq_some_iff.1 h).1
  rw [fr_take EL.len, show i * 2 + 2 = (i + 1) * 2 by omega, fr_drop EL.len, List.set_eq_take_append_cons_drop, if_pos hl, List.flatMap_append, List.flatMap_cons, List.append_assoc]
theorem el_one (xs : List EL) : ∀ u ∈ xs.flatMap EL.cells, u.oneCell' = true := by
  intro u hu
  obtain ⟨x, _, h⟩ := List.mem_flatMap.1 hu
  simp only [EL.cells, List.mem_cons, List.not_mem_nil, or_false] at h
  rcases h with rfl | rfl <;> rfl
theorem el_one' (xs : List EL) {z : List Value} (hz : ∀ u ∈ z, u.oneCell' = true) : ∀ u ∈ xs.flatMap EL.cells ++ z, u.oneCell' = true := fun u hu => (List.mem_append.1 hu).elim (el_one xs u) (hz u)
theorem pbs_map (cs : List Nat) : pBs cs = cs.flatMap (fun c => [pB c]) := by rw [pBs]; induction cs with | nil => rfl | cons a l ih => rw [List.map_cons, ih]; rfl
theorem pbs_len (cs : List Nat) : (pBs cs).length = cs.length := List.length_map ..
theorem pbs_at {cs : List Nat} {i c : Nat} (h : cs[i]? = some c) : (pBs cs)[i]? = some (pB c) := by rw [pBs, List.getElem?_map, h]; rfl
theorem pbs_one (cs : List Nat) : ∀ u ∈ pBs cs, u.oneCell' = true := by
  intro u hu
  obtain ⟨x, _, rfl⟩ := List.mem_map.1 hu
  rfl
theorem pbs_one' (cs : List Nat) {z : List Value} (hz : ∀ u ∈ z, u.oneCell' = true) : ∀ u ∈ pBs cs ++ z, u.oneCell' = true := fun u hu => (List.mem_append.1 hu).elim (pbs_one cs u) (hz u)
theorem pbs_set (cs : List Nat) (i c : Nat) : (pBs cs).set i (pB c) = pBs (cs.set i c) := by rw [pBs, pBs, List.map_set]
theorem pbs_same {cs : List Nat} {i c : Nat} (h : cs[i]? = some c) : (pBs cs).set i (pB c) = pBs cs := by
  obtain ⟨hl, e⟩ := List.getElem?_eq_some_iff.1 h
  rw [pbs_set, ← e, List.set_getElem_self]
theorem pbs_take (cs : List Nat) (k : Nat) : (pBs cs).take k = pBs (cs.take k) := (List.map_take ..).symm
theorem pbs_drop (cs : List Nat) (k : Nat) : (pBs cs).drop k = pBs (cs.drop k) := (List.map_drop ..).symm
theorem set_as {l : List Value} {i : Nat} {v : Value} (h : i < l.length) : l.set i v = l.take i ++ [v] ++ l.drop (i + 1) := by rw [List.set_eq_take_append_cons_drop, if_pos h, List.append_assoc]; rfl
theorem ins_ptr {xs : List Nat} {e i k : Nat} {z : Value} (hi : i ≤ xs.length) (hk : k = xs.length - i) {X C : List Value} (hX : X = pBs xs ++ [z])
    (hC : C = X.take ((i + 1) * 1) ++ (X.drop (i * 1)).take (k * 1) ++ X.drop ((i + 1) * 1 + k * 1)) : C.set i (pB e) = pBs (xs.take i ++ e :: xs.drop i) := by
  have hXl : X.length = xs.length + 1 := by rw [hX, List.length_append, pbs_len]; rfl
  have hCl : i < C.length := by
    rw [hC]; simp only [List.length_append, List.length_take, List.length_drop]; omega
  have := ins_row (f := fun c => [pB c]) (n := 1) (fun _ => rfl) (z := [z]) rfl (xs := xs) (e := e) hi hk (X := X) (by rw [hX, pbs_map]) hC
  rw [pbs_map, ← this, set_as hCl, Nat.mul_one]
theorem put_take {Z vs : List Value} {p q : Nat} (h : q ≤ p) (hl : p + vs.length ≤ Z.length) : (Z.take p ++ vs ++ Z.drop (p + vs.length)).take q = Z.take q ∧ (Z.take p ++ vs ++ Z.drop (p + vs.length)).length = Z.length := by
  constructor
  · rw [List.append_assoc, List.take_append_of_le_length (by rw [List.length_take]; omega), List.take_take, Nat.min_eq_left h]
  · simp only [List.length_append, List.length_take, List.length_drop]; omega
theorem slc_sb {R : HP} {sz m a : Nat} {v : Value} {xs : List Value} (h : RS R sz v m xs) (ha : a < m) : sb (slc v a m sz) = sb v ∧ so (slc v a m sz) = so v + a * sz := by
  obtain ⟨b, off, cap, rfl, hc, _⟩ := h.at_ (by omega)
  simp only [slc]
  rw [if_neg (by omega)]
  simp [add_mk, sb, so]
theorem slc_one {v : Value} (h : v.oneCell' = true) (a b s : Nat) : (slc v a b s).oneCell' = true := by
  cases v <;> first | rfl | exact h
section
variable {P : Program} {n : Nat} {e : Env} {w : World} {d : Option Nat} {ty : TypeId} {pos : String} {af : Array Edge} {g : Option (Nat × Bool)}
theorem x_idxSlc {R : HP} {t el : TypeId} {x y : Operand} {m a i sz bb : Nat} {v : Value} {xs : List Value} {z : Option Value} {k' : IntKind} {p : Addr} {ii : Int} (hx : ev n e x = slc v a m sz) (h : RS R sz v m xs) (hy : ev n e y = .int k' ii)
    (hu : P.underlying t = some (.slice el)) (hz : tin P el = some (sz, bb, z)) (ham : a ≤ m) (h0 : 0 ≤ ii) (hi : ii < (m - a : Nat)) (hn : ii.toNat = i) (hp : (⟨sb v, so v + (a + i) * sz, none⟩ : Addr) = p) :
    (execOp (ev n e) ⟨d, .indexAddr t x y, ty, pos, af, g⟩).run P w = .ok (.value (.pointer (some p))) w := by
  have q := slc_sb h (a := a) (by omega)
  refine x_idxRS (v := slc v a m sz) hx (h.slc ham (Nat.le_refl _)) hy hu hz h0 hi hn ?_
  rw [q.1, q.2, ← hp, Nat.add_mul, Nat.add_assoc]
end

end Go.Proofs.Ytdfjdmmmlidamaa
set_option linter.unusedVariables false
set_option linter.unusedSimpArgs false
namespace Go.Proofs.Ytdfjdmmmlidamaa
open Go Go.RowKit Gw Try
open Go.Value renaming int → vI, bool → vB, slice → vS, pointer → vP, agg → vA, tuple → vT

set_option maxHeartbeats 1600000 in
theorem btNew0 (R : HP) (fl fc : Nat) (fa : Option Addr) :
    Tri Try.prog 53 #[(vP (some ⟨fl, 0, none⟩))] R [cl fl 74 [(vS fa 0 fc)]] (fun v__ post__ => ∃ (a : Nat), v__ = (vP (some ⟨a, 0, none⟩)) ∧ post__ = [cl a 79 [(vS none 0 0), (vS none 0 0), (vP none)], cl fl 74 [(vS fa 0 fc)]]) := by
 refine Tri.into (n := 47) (al := [(vP (some ⟨fl, 0, none⟩))]) func53 rfl ntmps53 rfl rfl fun w F H => ?_
 refine cR fun _ hK1_ => ?_
 refine sv (v := (vP none)) (x_assign rfl) ?_
 refine wn (hK1_ _ _ ?_)
 refine cR fun _ hK2_ => ?_
 refine sm (vP (some ⟨fl, 0, none⟩)) ?_
 refine sv (v := (vP (some ⟨fl, 0, none⟩))) (by kernel_rfl) ?_
 refine sv (v := (vP (some ⟨fl, 0, none⟩))) (x_fieldAddr0 rfl underlying74 rfl z72 rfl rfl H 1 rfl (by kernel_rfl)) ?_
 refine S_list (T_callW (al := [(vP (some ⟨fl, 0, none⟩))]) rfl rfl cb66 (Calls.into (n := 2) func66 rfl ntmps66 rfl rfl ?_))
 refine C_skip ?_
 refine R_0 rfl ⟨_, rfl, ?_⟩
 refine wn (hK2_ _ _ ?_)
 refine cR fun _ hK3_ => ?_
 refine sm (vP (some ⟨fl, 0, none⟩)) ?_
 refine sv (v := (vP (some ⟨fl, 0, none⟩))) (by kernel_rfl) ?_
 refine sv (v := (vP (some ⟨fl, 0, none⟩))) (by kernel_rfl) ?_
 refine sv (v := (vS fa 0 fc)) (x_load1 rfl underlying70 rfl ((Holds.rd H 1 rfl) 0 (vS fa 0 fc) rfl)) ?_
 refine sv (v := (vI .i64 0)) (x_lenS rfl underlying70) ?_
 refine sv (v := (vI .i64 (-1))) (x_bin rfl rfl (by rfl)) ?_
 refine sv (v := (vI .i64 (-1))) (x_assign rfl) ?_
 refine wn (hK3_ _ _ ?_)
 refine C_seq (fun _ hK4_ => ?_)
 refine cR fun _ hK5_ => ?_
 refine sm (vI .i64 (-1)) ?_
 refine sv (v := (vB true)) (x_bin rfl rfl rfl) ?_
 refine wn (hK5_ _ _ ?_)
 refine C_condT rfl ?_
 refine cR fun _ hK6_ => ?_
 refine sm (vP (some ⟨fl, 0, none⟩)) ?_
 refine sv (v := (vP (some ⟨fl, 0, none⟩))) (by kernel_rfl) ?_
 refine sv (v := (vP (some ⟨fl, 0, none⟩))) (x_fieldAddr0 rfl underlying74 rfl z72 rfl rfl H 1 rfl (by kernel_rfl)) ?_
 refine S_list (T_callW (al := [(vP (some ⟨fl, 0, none⟩))]) rfl rfl cb67 (Calls.into (n := 2) func67 rfl ntmps67 rfl rfl ?_))
 refine C_skip ?_
 refine R_0 rfl ⟨_, rfl, ?_⟩
 refine wn (hK6_ _ _ ?_)
 refine cR fun _ hK7_ => ?_
 refine S_list (T_alloc z79 H ?_)
 intro b8_ w9_ S11_ H10_
 have S12_ := Same.trans (Same.refl w) S11_
 refine sv (v := (vP (some ⟨b8_, 0, none⟩))) (x_assign rfl) ?_
 refine wn (hK7_ _ _ ?_)
 refine C_ret (X_thenR ?_)
 refine R_any (v := (vP (some ⟨b8_, 0, none⟩))) (run_results1 rfl rfl) ?_
 have H13_ := Holds.pkF H10_ [1, 0, 0] 0
 exact ⟨_, _, rfl, ⟨b8_, rfl, rfl⟩, S12_, H13_⟩

set_option maxHeartbeats 1600000 in
theorem btNew (R : HP) (c fl fc : Nat) (fa : Option Addr) :
    Tri Try.prog 34 #[(vP (some ⟨c, 0, none⟩))] R [cl c 58 [(vP (some ⟨fl, 0, none⟩)), (Value.func (.func 16) #[] #[])], cl fl 74 [(vS fa 0 fc)]] (fun v__ post__ => ∃ (a : Nat), v__ = (vP (some ⟨a, 0, none⟩)) ∧ post__ = [cl a 79 [(vS none 0 0), (vS none 0 0), (vP (some ⟨c, 0, none⟩))], cl c 58 [(vP (some ⟨fl, 0, none⟩)), (Value.func (.func 16) #[] #[])], cl fl 74 [(vS fa 0 fc)]]) := by
 refine Tri.into (n := 12) (al := [(vP (some ⟨c, 0, none⟩))]) func34 rfl ntmps34 rfl rfl fun w F H => ?_
 refine cR fun _ hK1_ => ?_
 refine sv (v := (vP none)) (x_assign rfl) ?_
 refine wn (hK1_ _ _ ?_)
 refine cR fun _ hK2_ => ?_
 refine sm (vP (some ⟨c, 0, none⟩)) ?_
 refine sv (v := (vP (some ⟨c, 0, none⟩))) (by kernel_rfl) ?_
 refine sv (v := (vP (some ⟨c, 0, none⟩))) (by kernel_rfl) ?_
 refine sv (v := (vP (some ⟨fl, 0, none⟩))) (x_load1 rfl underlying55 rfl ((Holds.rd H 1 rfl) 0 (vP (some ⟨fl, 0, none⟩)) rfl)) ?_
 have H5_ := ((Holds.bring (Holds.bring H 2 rfl) 1 rfl) :)
 refine S_list (T_call (al := [(vP (some ⟨fl, 0, none⟩))]) (pre := [cl fl 74 [(vS fa 0 fc)]]) rfl rfl cb53 (btNew0 R fl fc fa) H5_ ?_)
 rintro v3_ p9_ w6_ ⟨a4_, rfl, rfl⟩ S8_ H7_
 have S10_ := Same.trans (Same.refl w) S8_
 refine sv (v := (vP (some ⟨a4_, 0, none⟩))) (x_assign rfl) ?_
 refine wn (hK2_ _ _ ?_)
 refine cR fun _ hK11_ => ?_
 refine sm (vP (some ⟨a4_, 0, none⟩)) ?_
 refine sm (vP (some ⟨c, 0, none⟩)) ?_
 refine sv (v := (vP (some ⟨a4_, 0, none⟩))) (by kernel_rfl) ?_
 refine sv (v := (vP (some ⟨a4_, 2, none⟩))) (by kernel_rfl) ?_
 refine S_list0 (T_store1 (v := (vP (some ⟨c, 0, none⟩))) rfl rfl z60 rfl H7_ 1 rfl (Nat.le_of_ble_eq_true (by rfl)) ?_)
 intro w12_ S14_ H13_
 have S15_ := Same.trans S10_ S14_
 refine wn (hK11_ _ _ ?_)
 refine C_ret ?_
 refine R_any (v := (vP (some ⟨a4_, 0, none⟩))) (run_results1 rfl rfl) ?_
 have H16_ := Holds.pkF H13_ [0, 0, 1, 0] 0
 exact ⟨_, _, rfl, ⟨a4_, rfl, rfl⟩, S15_, H16_⟩

set_option maxHeartbeats 1600000 in
theorem btInsE (R : HP) (a i : Nat) (iv cv pv : Value) (xs : List EL) (e : EL) (hi : i ≤ xs.length) (hn : xs.length ≤ 1000000) :
    Tri Try.prog 57 #[(vP (some ⟨a, 0, none⟩)), (vI .i64 (i : Int)), (vA #[(vI .i64 e.key), (vI .i64 e.val)])] R [cl a 79 [iv, cv, pv], sl 24 2 iv (List.length xs) (xs.flatMap EL.cells)] (fun v__ post__ => ∃ (iv' : Value), v__ = (vT #[]) ∧ post__ = [cl a 79 [iv', cv, pv], sl 24 2 iv' (List.length (xs.take i ++ e :: xs.drop i)) ((xs.take i ++ e :: xs.drop i).flatMap EL.cells)]) := by
 refine Tri.into (n := 39) (al := [(vP (some ⟨a, 0, none⟩)), (vI .i64 (i : Int)), (vA #[(vI .i64 e.key), (vI .i64 e.val)])]) func57 rfl ntmps57 rfl rfl fun w F H => ?_
 refine cR fun _ hK1_ => ?_
 refine S_list (T_box (v := (vA #[(vI .i64 e.key), (vI .i64 e.val)])) rfl H ?_)
 intro b2_ w3_ S5_ H4_
 have S6_ := Same.trans (Same.refl w) S5_
 refine wn (hK1_ _ _ ?_)
 refine cR fun _ hK7_ => ?_
 refine S_list (T_alloc z24 H4_ ?_)
 intro b8_ w9_ S11_ H10_
 have S12_ := Same.trans S6_ S11_
 refine wn (hK7_ _ _ ?_)
 refine C_seq (fun _ hK13_ => ?_)
 refine A_start (S := fun w => Rd b8_ [(vI .i64 0), (vI .i64 0)] w ∧ Sub R (hp w)) (N := 9) foll rfl rfl ?_
 have H14_ := Holds.drew_ H10_
 have hq15_ := And.intro (Holds.rd H14_ 0 rfl) ((Holds.ro_at H14_ 2 rfl))
 refine A_tk 0 (v := (vP (some ⟨a, 0, none⟩))) rfl (by kernel_rfl) (fun w hS => x_move rfl) hq15_ ?_
 refine A_tk 1 (v := (vP (some ⟨a, 0, none⟩))) rfl (by kernel_rfl) (fun w hS => x_move rfl) hq15_ ?_
 refine A_tk 2 (v := (vP (some ⟨a, 0, none⟩))) rfl (by kernel_rfl) (fun w hS => by kernel_rfl) hq15_ ?_
 refine A_tk 4 (v := (vA #[(vI .i64 0), (vI .i64 0)])) rfl (by kernel_rfl) (fun w hS => x_loadN (vs := [(vI .i64 0), (vI .i64 0)]) rfl underlying24 rfl z24 rfl (Rd.cells hS.1 0 rfl)) hq15_ ?_
 refine A_ready (i := 3) (rs := [5]) (by kernel_rfl) ?_
 refine AllR.cons ?_ ?_
 ·skip
  refine A_op (ls' := #[true, true, true, true, true, false, false, false, false]) rfl (by kernel_rfl) (T_val (v := iv) (x_load1 rfl underlying76 rfl ((Holds.rd H14_ 3 rfl) 0 iv rfl)) ?_)
  refine ⟨⟨Holds.rd H14_ 0 rfl, (Holds.ro_at H14_ 2 rfl)⟩, ?_⟩
  refine A_ready (i := 5) (rs := []) (by kernel_rfl) ?_
  refine AllR.cons ?_ AllR.nil
  refine A_op (ls' := #[true, true, true, true, true, true, false, false, false]) rfl (by kernel_rfl) (T_new (obj := .cells #[(vI .i64 0), (vI .i64 0)] 24) (f := fun b__ => .slice (some ⟨b__, 0, none⟩) 1 1) (A := fun b__ => cl b__ 24 [(vI .i64 0), (vI .i64 0)]) (by kernel_rfl) (fun l h => h.alloc _ _) H14_ ?_)
  intro b16_ w17_ S19_ H18_
  have S20_ := Same.trans (Same.trans S12_ (Same.drew _)) S19_
  refine ⟨⟨Holds.rd H18_ 1 rfl, (Holds.ro_at H18_ 3 rfl)⟩, ?_⟩
  refine A_ready (i := 6) (rs := []) (by kernel_rfl) ?_
  refine AllR.cons ?_ AllR.nil
  refine A_op (ls' := #[true, true, true, true, true, true, true, false, false]) rfl (by kernel_rfl) (T_append rfl rfl underlying76 z24 rfl (by decide) H18_ 5 rfl (Holds.cl_src H18_ 0 rfl underlying76 (by simp [Value.oneCell']) rfl) (by first | omega | (simp only [List.length_append, List.length_cons, List.length_nil]; omega)) ?_)
  intro v21_ w22_ S24_ H23_
  have S25_ := Same.trans S20_ S24_
  refine ⟨⟨Holds.rd H23_ 1 rfl, (Holds.ro_at H23_ 3 rfl)⟩, ?_⟩
  have hq26_ := And.intro (Holds.rd H23_ 1 rfl) ((Holds.ro_at H23_ 3 rfl))
  refine A_tk 7 (v := (vP (some ⟨a, 0, none⟩))) rfl (by kernel_rfl) (fun w hS => by kernel_rfl) hq26_ ?_
  refine A_ready (i := 8) (rs := []) (by kernel_rfl) ?_
  refine AllR.cons ?_ AllR.nil
  refine A_op0 (ls' := #[true, true, true, true, true, true, true, true, true]) rfl (by kernel_rfl) (T_store1 (v := v21_) rfl rfl z76 (Holds.sl_one H23_ 5 rfl) H23_ 4 rfl (Nat.le_of_ble_eq_true (by rfl)) ?_)
  intro w27_ S29_ H28_
  have S30_ := Same.trans S25_ S29_
  refine ⟨⟨Holds.rd H28_ 1 rfl, (Holds.ro_at H28_ 3 rfl)⟩, ?_⟩
  refine A_done (by kernel_rfl) ?_
  refine (X_then (hK13_ _ _ ?_))
  refine C_seq (fun _ hK31_ => ?_)
  refine cR fun _ hK32_ => ?_
  refine sm (vI .i64 (i : Int)) ?_
  refine sm (vP (some ⟨a, 0, none⟩)) ?_
  refine sv (v := (vP (some ⟨a, 0, none⟩))) (by kernel_rfl) ?_
  refine sv (v := v21_) (x_load1 rfl underlying76 rfl ((Holds.rd H28_ 4 rfl) 0 v21_ rfl)) ?_
  refine sv (v := (vI .i64 ((List.length xs) + 1 : Int))) (x_lenSl rfl H28_ 5 rfl underlying76) ?_
  refine sv (v := (vB (decide ((i : Int) < ((List.length xs) + 1 : Int))))) (x_bin rfl rfl rfl) ?_
  refine wn (hK32_ _ _ ?_)
  refine C_cond (b := decide ((i : Int) < ((List.length xs) + 1 : Int))) rfl (fun c33_t => ?_) (fun c33_f => ?_)
  ·have c33_tp : (i : Int) < ((List.length xs) + 1 : Int) := of_decide_eq_true c33_t
   refine A_start (S := fun w => Rd a [v21_, cv, pv] w ∧ Sub R (hp w)) (N := 12) foll rfl rfl ?_
   have H34_ := Holds.drew_ H28_
   have hq35_ := And.intro (Holds.rd H34_ 4 rfl) ((Holds.ro_at H34_ 3 rfl))
   refine A_tk 0 (v := (vP (some ⟨a, 0, none⟩))) rfl (by kernel_rfl) (fun w hS => x_move rfl) hq35_ ?_
   refine A_tk 1 (v := (vP (some ⟨a, 0, none⟩))) rfl (by kernel_rfl) (fun w hS => by kernel_rfl) hq35_ ?_
   refine A_tk 2 (v := v21_) rfl (by kernel_rfl) (fun w hS => x_load1 rfl underlying76 rfl (hS.1 0 v21_ rfl)) hq35_ ?_
   refine A_tk 3 (v := (vI .i64 (i : Int))) rfl (by kernel_rfl) (fun w hS => x_move rfl) hq35_ ?_
   refine A_tk 4 (v := (vI .i64 ((i : Int) + 1))) rfl (by kernel_rfl) (fun w hS => x_bin rfl rfl (ib_add (IntWalk.i64_in _ (by omega)))) hq35_ ?_
   have hr36_ := Holds.sl_RSw H34_ 5 rfl
   refine A_tk 5 (v := ((slc v21_ (i + 1) ((List.length xs) + 1) 2))) rfl (by kernel_rfl) (fun w hS => x_sliceRS (l := i + 1) (h := (List.length xs) + 1) rfl hr36_ underlying76 z24 (by omega) rfl ⟨_, _, rfl, by omega, by omega, by omega⟩) hq35_ ?_
   refine A_tk 6 (v := (vP (some ⟨a, 0, none⟩))) rfl (by kernel_rfl) (fun w hS => x_move rfl) hq35_ ?_
   refine A_tk 7 (v := (vP (some ⟨a, 0, none⟩))) rfl (by kernel_rfl) (fun w hS => by kernel_rfl) hq35_ ?_
   refine A_tk 8 (v := v21_) rfl (by kernel_rfl) (fun w hS => x_load1 rfl underlying76 rfl (hS.1 0 v21_ rfl)) hq35_ ?_
   refine A_tk 9 (v := (vI .i64 (i : Int))) rfl (by kernel_rfl) (fun w hS => x_move rfl) hq35_ ?_
   refine A_tk 10 (v := ((slc v21_ i ((List.length xs) + 1) 2))) rfl (by kernel_rfl) (fun w hS => x_sliceRS (l := i) (h := (List.length xs) + 1) rfl hr36_ underlying76 z24 (by omega) rfl ⟨_, _, rfl, by omega, by omega, by omega⟩) hq35_ ?_
   refine A_ready (i := 11) (rs := []) (by kernel_rfl) ?_
   refine AllR.cons ?_ AllR.nil
   refine A_op (ls' := #[true, true, true, true, true, true, true, true, true, true, true, true]) rfl (by kernel_rfl) (T_copySlE (T := 24) (sz := 2) (v := v21_) (m := ((List.length xs) + 1)) (a := (i + 1)) (b := i) (k := ((List.length xs) + 1 - (i + 1))) rfl rfl underlying76 z24 H34_ 5 rfl (by omega) (by omega) ((Nat.min_eq_right (by omega)).trans (by omega)) (el_one' _ (by simp [Value.oneCell'])) ?_)
   intro w40_ S42_ H41_
   have S43_ := Same.trans (Same.trans S30_ (Same.drew _)) S42_
   obtain ⟨C37_, hC38_⟩ : ∃ C__, C__ = List.take ((i + 1) * 2) ((xs.flatMap EL.cells) ++ [(vI .i64 0), (vI .i64 0)]) ++ List.take (((List.length xs) + 1 - (i + 1)) * 2) (List.drop (i * 2) ((xs.flatMap EL.cells) ++ [(vI .i64 0), (vI .i64 0)])) ++ List.drop ((i + 1) * 2 + ((List.length xs) + 1 - (i + 1)) * 2) ((xs.flatMap EL.cells) ++ [(vI .i64 0), (vI .i64 0)]) := ⟨_, rfl⟩
   have H44_ : Holds w40_ (cl b16_ 24 [(vI .i64 0), (vI .i64 0)] :: cl b8_ 24 [(vI .i64 0), (vI .i64 0)] :: cl b2_ 24 [(vI .i64 e.key), (vI .i64 e.val)] :: ro R :: cl a 79 [v21_, cv, pv] :: sl 24 2 v21_ ((List.length xs) + 1) C37_ :: F) := by rw [hC38_]; exact H41_
   have hl39_ := (Holds.sl_RSw H44_ 5 rfl).1
   refine ⟨⟨Holds.rd H44_ 4 rfl, (Holds.ro_at H44_ 3 rfl)⟩, ?_⟩
   refine A_done (by kernel_rfl) ?_
   refine (X_then (hK31_ _ _ ?_))
   refine A_start (S := fun w => Rd b2_ [(vI .i64 e.key), (vI .i64 e.val)] w ∧ Rd a [v21_, cv, pv] w ∧ Sub R (hp w)) (N := 7) foll rfl rfl ?_
   have H45_ := Holds.drew_ H44_
   have hq46_ := And.intro (Holds.rd H45_ 2 rfl) (And.intro (Holds.rd H45_ 4 rfl) ((Holds.ro_at H45_ 3 rfl)))
   refine A_tk 0 (v := (vP (some ⟨a, 0, none⟩))) rfl (by kernel_rfl) (fun w hS => x_move rfl) hq46_ ?_
   refine A_tk 1 (v := (vP (some ⟨a, 0, none⟩))) rfl (by kernel_rfl) (fun w hS => by kernel_rfl) hq46_ ?_
   refine A_tk 2 (v := v21_) rfl (by kernel_rfl) (fun w hS => x_load1 rfl underlying76 rfl (hS.2.1 0 v21_ rfl)) hq46_ ?_
   refine A_tk 3 (v := (vI .i64 (i : Int))) rfl (by kernel_rfl) (fun w hS => x_move rfl) hq46_ ?_
   refine A_tk 4 (v := (vA #[(vI .i64 e.key), (vI .i64 e.val)])) rfl (by kernel_rfl) (fun w hS => x_loadN (vs := [(vI .i64 e.key), (vI .i64 e.val)]) rfl underlying24 rfl z24 rfl (Rd.cells hS.1 0 rfl)) hq46_ ?_
   have hr47_ := Holds.sl_RSw H45_ 5 rfl
   refine A_tk 5 (v := (vP (some ⟨(sb v21_), so v21_ + (i * 2 + 0), none⟩))) rfl (by kernel_rfl) (fun w hS => x_idxSlR (v := v21_) rfl hr47_ rfl underlying76 z24 (by omega) (by omega) (by omega : _ = i) rfl) hq46_ ?_
   refine A_ready (i := 6) (rs := []) (by kernel_rfl) ?_
   refine AllR.cons ?_ AllR.nil
   refine A_op0 (ls' := #[true, true, true, true, true, true, true]) rfl (by kernel_rfl) (T_storeSlN (vs := [(vI .i64 e.key), (vI .i64 e.val)]) (k := i * 2 + 0) rfl rfl z24 rfl (by simp [Value.oneCell']) H45_ 5 rfl (by simp only [List.length_cons, List.length_nil]; omega) (Nat.zero_lt_succ _) rfl rfl ?_)
   intro w48_ S50_ H49_
   have S51_ := Same.trans (Same.trans S43_ (Same.drew _)) S50_
   refine ⟨⟨Holds.rd H49_ 2 rfl, Holds.rd H49_ 4 rfl, (Holds.ro_at H49_ 3 rfl)⟩, ?_⟩
   refine A_done (by kernel_rfl) ?_
   refine R_0 rfl ?_
   have H52_ := Holds.resl H49_ 5 rfl ((ins_row EL.len (z := [vI .i64 0, vI .i64 0]) rfl (xs := xs) (e := e) (i := i) (by omega) (by omega) rfl hC38_) : List.take (i * 2 + 0) C37_ ++ [(vI .i64 e.key), (vI .i64 e.val)] ++ List.drop (i * 2 + 0 + List.length [(vI .i64 e.key), (vI .i64 e.val)]) C37_ = (xs.take i ++ e :: xs.drop i).flatMap EL.cells) ((by simp; omega) : (List.length xs) + 1 = (List.length (xs.take i ++ e :: xs.drop i)))
   have H53_ := Holds.pkF H52_ [3, 3, 3] 3
   exact ⟨_, _, rfl, ⟨v21_, rfl, rfl⟩, S51_, H53_⟩
  ·have c33_fp : ¬ ((i : Int) < ((List.length xs) + 1 : Int)) := of_decide_eq_false c33_f
   omega
 refine AllR.cons ?_ AllR.nil
 refine A_op (ls' := #[true, true, true, false, true, true, false, false, false]) rfl (by kernel_rfl) (T_new (obj := .cells #[(vI .i64 0), (vI .i64 0)] 24) (f := fun b__ => .slice (some ⟨b__, 0, none⟩) 1 1) (A := fun b__ => cl b__ 24 [(vI .i64 0), (vI .i64 0)]) (by kernel_rfl) (fun l h => h.alloc _ _) H14_ ?_)
 intro b54_ w55_ S57_ H56_
 have S58_ := Same.trans (Same.trans S12_ (Same.drew _)) S57_
 refine ⟨⟨Holds.rd H56_ 1 rfl, (Holds.ro_at H56_ 3 rfl)⟩, ?_⟩
 refine A_ready (i := 3) (rs := []) (by kernel_rfl) ?_
 refine AllR.cons ?_ AllR.nil
 refine A_op (ls' := #[true, true, true, true, true, true, false, false, false]) rfl (by kernel_rfl) (T_val (v := iv) (x_load1 rfl underlying76 rfl ((Holds.rd H56_ 4 rfl) 0 iv rfl)) ?_)
 refine ⟨⟨Holds.rd H56_ 1 rfl, (Holds.ro_at H56_ 3 rfl)⟩, ?_⟩
 refine A_ready (i := 6) (rs := []) (by kernel_rfl) ?_
 refine AllR.cons ?_ AllR.nil
 refine A_op (ls' := #[true, true, true, true, true, true, true, false, false]) rfl (by kernel_rfl) (T_append rfl rfl underlying76 z24 rfl (by decide) H56_ 5 rfl (Holds.cl_src H56_ 0 rfl underlying76 (by simp [Value.oneCell']) rfl) (by first | omega | (simp only [List.length_append, List.length_cons, List.length_nil]; omega)) ?_)
 intro v59_ w60_ S62_ H61_
 have S63_ := Same.trans S58_ S62_
 refine ⟨⟨Holds.rd H61_ 1 rfl, (Holds.ro_at H61_ 3 rfl)⟩, ?_⟩
 have hq64_ := And.intro (Holds.rd H61_ 1 rfl) ((Holds.ro_at H61_ 3 rfl))
 refine A_tk 7 (v := (vP (some ⟨a, 0, none⟩))) rfl (by kernel_rfl) (fun w hS => by kernel_rfl) hq64_ ?_
 refine A_ready (i := 8) (rs := []) (by kernel_rfl) ?_
 refine AllR.cons ?_ AllR.nil
 refine A_op0 (ls' := #[true, true, true, true, true, true, true, true, true]) rfl (by kernel_rfl) (T_store1 (v := v59_) rfl rfl z76 (Holds.sl_one H61_ 5 rfl) H61_ 4 rfl (Nat.le_of_ble_eq_true (by rfl)) ?_)
 intro w65_ S67_ H66_
 have S68_ := Same.trans S63_ S67_
 refine ⟨⟨Holds.rd H66_ 1 rfl, (Holds.ro_at H66_ 3 rfl)⟩, ?_⟩
 refine A_done (by kernel_rfl) ?_
 refine (X_then (hK13_ _ _ ?_))
 refine C_seq (fun _ hK69_ => ?_)
 refine cR fun _ hK70_ => ?_
 refine sm (vI .i64 (i : Int)) ?_
 refine sm (vP (some ⟨a, 0, none⟩)) ?_
 refine sv (v := (vP (some ⟨a, 0, none⟩))) (by kernel_rfl) ?_
 refine sv (v := v59_) (x_load1 rfl underlying76 rfl ((Holds.rd H66_ 4 rfl) 0 v59_ rfl)) ?_
 refine sv (v := (vI .i64 ((List.length xs) + 1 : Int))) (x_lenSl rfl H66_ 5 rfl underlying76) ?_
 refine sv (v := (vB (decide ((i : Int) < ((List.length xs) + 1 : Int))))) (x_bin rfl rfl rfl) ?_
 refine wn (hK70_ _ _ ?_)
 refine C_cond (b := decide ((i : Int) < ((List.length xs) + 1 : Int))) rfl (fun c71_t => ?_) (fun c71_f => ?_)
 ·have c71_tp : (i : Int) < ((List.length xs) + 1 : Int) := of_decide_eq_true c71_t
  refine A_start (S := fun w => Rd a [v59_, cv, pv] w ∧ Sub R (hp w)) (N := 12) foll rfl rfl ?_
  have H72_ := Holds.drew_ H66_
  have hq73_ := And.intro (Holds.rd H72_ 4 rfl) ((Holds.ro_at H72_ 3 rfl))
  refine A_tk 0 (v := (vP (some ⟨a, 0, none⟩))) rfl (by kernel_rfl) (fun w hS => x_move rfl) hq73_ ?_
  refine A_tk 1 (v := (vP (some ⟨a, 0, none⟩))) rfl (by kernel_rfl) (fun w hS => by kernel_rfl) hq73_ ?_
  refine A_tk 2 (v := v59_) rfl (by kernel_rfl) (fun w hS => x_load1 rfl underlying76 rfl (hS.1 0 v59_ rfl)) hq73_ ?_
  refine A_tk 3 (v := (vI .i64 (i : Int))) rfl (by kernel_rfl) (fun w hS => x_move rfl) hq73_ ?_
  refine A_tk 4 (v := (vI .i64 ((i : Int) + 1))) rfl (by kernel_rfl) (fun w hS => x_bin rfl rfl (ib_add (IntWalk.i64_in _ (by omega)))) hq73_ ?_
  have hr74_ := Holds.sl_RSw H72_ 5 rfl
  refine A_tk 5 (v := ((slc v59_ (i + 1) ((List.length xs) + 1) 2))) rfl (by kernel_rfl) (fun w hS => x_sliceRS (l := i + 1) (h := (List.length xs) + 1) rfl hr74_ underlying76 z24 (by omega) rfl ⟨_, _, rfl, by omega, by omega, by omega⟩) hq73_ ?_
  refine A_tk 6 (v := (vP (some ⟨a, 0, none⟩))) rfl (by kernel_rfl) (fun w hS => x_move rfl) hq73_ ?_
  refine A_tk 7 (v := (vP (some ⟨a, 0, none⟩))) rfl (by kernel_rfl) (fun w hS => by kernel_rfl) hq73_ ?_
  refine A_tk 8 (v := v59_) rfl (by kernel_rfl) (fun w hS => x_load1 rfl underlying76 rfl (hS.1 0 v59_ rfl)) hq73_ ?_
  refine A_tk 9 (v := (vI .i64 (i : Int))) rfl (by kernel_rfl) (fun w hS => x_move rfl) hq73_ ?_
  refine A_tk 10 (v := ((slc v59_ i ((List.length xs) + 1) 2))) rfl (by kernel_rfl) (fun w hS => x_sliceRS (l := i) (h := (List.length xs) + 1) rfl hr74_ underlying76 z24 (by omega) rfl ⟨_, _, rfl, by omega, by omega, by omega⟩) hq73_ ?_
  refine A_ready (i := 11) (rs := []) (by kernel_rfl) ?_
  refine AllR.cons ?_ AllR.nil
  refine A_op (ls' := #[true, true, true, true, true, true, true, true, true, true, true, true]) rfl (by kernel_rfl) (T_copySlE (T := 24) (sz := 2) (v := v59_) (m := ((List.length xs) + 1)) (a := (i + 1)) (b := i) (k := ((List.length xs) + 1 - (i + 1))) rfl rfl underlying76 z24 H72_ 5 rfl (by omega) (by omega) ((Nat.min_eq_right (by omega)).trans (by omega)) (el_one' _ (by simp [Value.oneCell'])) ?_)
  intro w78_ S80_ H79_
  have S81_ := Same.trans (Same.trans S68_ (Same.drew _)) S80_
  obtain ⟨C75_, hC76_⟩ : ∃ C__, C__ = List.take ((i + 1) * 2) ((xs.flatMap EL.cells) ++ [(vI .i64 0), (vI .i64 0)]) ++ List.take (((List.length xs) + 1 - (i + 1)) * 2) (List.drop (i * 2) ((xs.flatMap EL.cells) ++ [(vI .i64 0), (vI .i64 0)])) ++ List.drop ((i + 1) * 2 + ((List.length xs) + 1 - (i + 1)) * 2) ((xs.flatMap EL.cells) ++ [(vI .i64 0), (vI .i64 0)]) := ⟨_, rfl⟩
  have H82_ : Holds w78_ (cl b54_ 24 [(vI .i64 0), (vI .i64 0)] :: cl b8_ 24 [(vI .i64 0), (vI .i64 0)] :: cl b2_ 24 [(vI .i64 e.key), (vI .i64 e.val)] :: ro R :: cl a 79 [v59_, cv, pv] :: sl 24 2 v59_ ((List.length xs) + 1) C75_ :: F) := by rw [hC76_]; exact H79_
  have hl77_ := (Holds.sl_RSw H82_ 5 rfl).1
  refine ⟨⟨Holds.rd H82_ 4 rfl, (Holds.ro_at H82_ 3 rfl)⟩, ?_⟩
  refine A_done (by kernel_rfl) ?_
  refine (X_then (hK69_ _ _ ?_))
  refine A_start (S := fun w => Rd b2_ [(vI .i64 e.key), (vI .i64 e.val)] w ∧ Rd a [v59_, cv, pv] w ∧ Sub R (hp w)) (N := 7) foll rfl rfl ?_
  have H83_ := Holds.drew_ H82_
  have hq84_ := And.intro (Holds.rd H83_ 2 rfl) (And.intro (Holds.rd H83_ 4 rfl) ((Holds.ro_at H83_ 3 rfl)))
  refine A_tk 0 (v := (vP (some ⟨a, 0, none⟩))) rfl (by kernel_rfl) (fun w hS => x_move rfl) hq84_ ?_
  refine A_tk 1 (v := (vP (some ⟨a, 0, none⟩))) rfl (by kernel_rfl) (fun w hS => by kernel_rfl) hq84_ ?_
  refine A_tk 2 (v := v59_) rfl (by kernel_rfl) (fun w hS => x_load1 rfl underlying76 rfl (hS.2.1 0 v59_ rfl)) hq84_ ?_
  refine A_tk 3 (v := (vI .i64 (i : Int))) rfl (by kernel_rfl) (fun w hS => x_move rfl) hq84_ ?_
  refine A_tk 4 (v := (vA #[(vI .i64 e.key), (vI .i64 e.val)])) rfl (by kernel_rfl) (fun w hS => x_loadN (vs := [(vI .i64 e.key), (vI .i64 e.val)]) rfl underlying24 rfl z24 rfl (Rd.cells hS.1 0 rfl)) hq84_ ?_
  have hr85_ := Holds.sl_RSw H83_ 5 rfl
  refine A_tk 5 (v := (vP (some ⟨(sb v59_), so v59_ + (i * 2 + 0), none⟩))) rfl (by kernel_rfl) (fun w hS => x_idxSlR (v := v59_) rfl hr85_ rfl underlying76 z24 (by omega) (by omega) (by omega : _ = i) rfl) hq84_ ?_
  refine A_ready (i := 6) (rs := []) (by kernel_rfl) ?_
  refine AllR.cons ?_ AllR.nil
  refine A_op0 (ls' := #[true, true, true, true, true, true, true]) rfl (by kernel_rfl) (T_storeSlN (vs := [(vI .i64 e.key), (vI .i64 e.val)]) (k := i * 2 + 0) rfl rfl z24 rfl (by simp [Value.oneCell']) H83_ 5 rfl (by simp only [List.length_cons, List.length_nil]; omega) (Nat.zero_lt_succ _) rfl rfl ?_)
  intro w86_ S88_ H87_
  have S89_ := Same.trans (Same.trans S81_ (Same.drew _)) S88_
  refine ⟨⟨Holds.rd H87_ 2 rfl, Holds.rd H87_ 4 rfl, (Holds.ro_at H87_ 3 rfl)⟩, ?_⟩
  refine A_done (by kernel_rfl) ?_
  refine R_0 rfl ?_
  have H90_ := Holds.resl H87_ 5 rfl ((ins_row EL.len (z := [vI .i64 0, vI .i64 0]) rfl (xs := xs) (e := e) (i := i) (by omega) (by omega) rfl hC76_) : List.take (i * 2 + 0) C75_ ++ [(vI .i64 e.key), (vI .i64 e.val)] ++ List.drop (i * 2 + 0 + List.length [(vI .i64 e.key), (vI .i64 e.val)]) C75_ = (xs.take i ++ e :: xs.drop i).flatMap EL.cells) ((by simp; omega) : (List.length xs) + 1 = (List.length (xs.take i ++ e :: xs.drop i)))
  have H91_ := Holds.pkF H90_ [3, 3, 3] 3
  exact ⟨_, _, rfl, ⟨v59_, rfl, rfl⟩, S89_, H91_⟩
 ·have c71_fp : ¬ ((i : Int) < ((List.length xs) + 1 : Int)) := of_decide_eq_false c71_f
  omega

set_option maxHeartbeats 1600000 in
theorem btInsP (R : HP) (a i e : Nat) (iv cv pv : Value) (cs : List Nat) (hi : i ≤ cs.length) (hn : cs.length ≤ 2000000) :
    Tri Try.prog 70 #[(vP (some ⟨a, 1, none⟩)), (vI .i64 (i : Int)), (vP (some ⟨e, 0, none⟩))] R [cl a 79 [iv, cv, pv], sl 59 1 cv (List.length cs) (pBs cs)] (fun v__ post__ => ∃ (cv' : Value), v__ = (vT #[]) ∧ post__ = [cl a 79 [iv, cv', pv], sl 59 1 cv' (List.length (cs.take i ++ e :: cs.drop i)) (pBs (cs.take i ++ e :: cs.drop i))]) := by
 refine Tri.into (n := 39) (al := [(vP (some ⟨a, 1, none⟩)), (vI .i64 (i : Int)), (vP (some ⟨e, 0, none⟩))]) func70 rfl ntmps70 rfl rfl fun w F H => ?_
 refine cR fun _ hK1_ => ?_
 refine sv (v := (vP none)) (x_assign rfl) ?_
 refine wn (hK1_ _ _ ?_)
 refine cR fun _ hK2_ => ?_
 refine sm (vP (some ⟨a, 1, none⟩)) ?_
 refine sm (vP (some ⟨a, 1, none⟩)) ?_
 refine sv (v := (vP (some ⟨a, 1, none⟩))) (by kernel_rfl) ?_
 refine sv (v := cv) (x_load1 rfl underlying77 rfl ((Holds.rd H 1 rfl) 1 cv rfl)) ?_
 refine sm (vP none) ?_
 refine S_list (T_new (obj := .cells #[(vP none)] 59) (f := fun b__ => .slice (some ⟨b__, 0, none⟩) 1 1) (A := fun b__ => cl b__ 59 [(vP none)]) (by kernel_rfl) (fun l h => h.alloc _ _) H ?_)
 intro b3_ w4_ S6_ H5_
 have S7_ := Same.trans (Same.refl w) S6_
 refine S_list (T_append rfl rfl underlying77 z59 rfl (by decide) H5_ 3 rfl (Holds.cl_src H5_ 0 rfl underlying77 (by simp [Value.oneCell']) rfl) (by first | omega | (simp only [List.length_append, List.length_cons, List.length_nil]; omega)) ?_)
 intro v8_ w9_ S11_ H10_
 have S12_ := Same.trans S7_ S11_
 refine sv (v := (vP (some ⟨a, 1, none⟩))) (by kernel_rfl) ?_
 refine S_list0 (T_store1 (v := v8_) rfl rfl z77 (Holds.sl_one H10_ 3 rfl) H10_ 2 rfl (Nat.le_of_ble_eq_true (by rfl)) ?_)
 intro w13_ S15_ H14_
 have S16_ := Same.trans S12_ S15_
 refine wn (hK2_ _ _ ?_)
 refine C_seq (fun _ hK17_ => ?_)
 refine cR fun _ hK18_ => ?_
 refine sm (vI .i64 (i : Int)) ?_
 refine sm (vP (some ⟨a, 1, none⟩)) ?_
 refine sv (v := (vP (some ⟨a, 1, none⟩))) (by kernel_rfl) ?_
 refine sv (v := v8_) (x_load1 rfl underlying77 rfl ((Holds.rd H14_ 2 rfl) 1 v8_ rfl)) ?_
 refine sv (v := (vI .i64 ((List.length cs) + 1 : Int))) (x_lenSl rfl H14_ 3 rfl underlying77) ?_
 refine sv (v := (vB (decide ((i : Int) < ((List.length cs) + 1 : Int))))) (x_bin rfl rfl rfl) ?_
 refine wn (hK18_ _ _ ?_)
 refine C_cond (b := decide ((i : Int) < ((List.length cs) + 1 : Int))) rfl (fun c19_t => ?_) (fun c19_f => ?_)
 ·have c19_tp : (i : Int) < ((List.length cs) + 1 : Int) := of_decide_eq_true c19_t
  refine A_start (S := fun w => Rd a [iv, v8_, pv] w ∧ Sub R (hp w)) (N := 12) foll rfl rfl ?_
  have H20_ := Holds.drew_ H14_
  have hq21_ := And.intro (Holds.rd H20_ 2 rfl) ((Holds.ro_at H20_ 1 rfl))
  refine A_tk 0 (v := (vP (some ⟨a, 1, none⟩))) rfl (by kernel_rfl) (fun w hS => x_move rfl) hq21_ ?_
  refine A_tk 1 (v := (vP (some ⟨a, 1, none⟩))) rfl (by kernel_rfl) (fun w hS => by kernel_rfl) hq21_ ?_
  refine A_tk 2 (v := v8_) rfl (by kernel_rfl) (fun w hS => x_load1 rfl underlying77 rfl (hS.1 1 v8_ rfl)) hq21_ ?_
  refine A_tk 3 (v := (vI .i64 (i : Int))) rfl (by kernel_rfl) (fun w hS => x_move rfl) hq21_ ?_
  refine A_tk 4 (v := (vI .i64 ((i : Int) + 1))) rfl (by kernel_rfl) (fun w hS => x_bin rfl rfl (ib_add (IntWalk.i64_in _ (by omega)))) hq21_ ?_
  have hr22_ := Holds.sl_RSw H20_ 3 rfl
  refine A_tk 5 (v := ((slc v8_ (i + 1) ((List.length cs) + 1) 1))) rfl (by kernel_rfl) (fun w hS => x_sliceRS (l := i + 1) (h := (List.length cs) + 1) rfl hr22_ underlying77 z59 (by omega) rfl ⟨_, _, rfl, by omega, by omega, by omega⟩) hq21_ ?_
  refine A_tk 6 (v := (vP (some ⟨a, 1, none⟩))) rfl (by kernel_rfl) (fun w hS => x_move rfl) hq21_ ?_
  refine A_tk 7 (v := (vP (some ⟨a, 1, none⟩))) rfl (by kernel_rfl) (fun w hS => by kernel_rfl) hq21_ ?_
  refine A_tk 8 (v := v8_) rfl (by kernel_rfl) (fun w hS => x_load1 rfl underlying77 rfl (hS.1 1 v8_ rfl)) hq21_ ?_
  refine A_tk 9 (v := (vI .i64 (i : Int))) rfl (by kernel_rfl) (fun w hS => x_move rfl) hq21_ ?_
  refine A_tk 10 (v := ((slc v8_ i ((List.length cs) + 1) 1))) rfl (by kernel_rfl) (fun w hS => x_sliceRS (l := i) (h := (List.length cs) + 1) rfl hr22_ underlying77 z59 (by omega) rfl ⟨_, _, rfl, by omega, by omega, by omega⟩) hq21_ ?_
  refine A_ready (i := 11) (rs := []) (by kernel_rfl) ?_
  refine AllR.cons ?_ AllR.nil
  refine A_op (ls' := #[true, true, true, true, true, true, true, true, true, true, true, true]) rfl (by kernel_rfl) (T_copySlE (T := 59) (sz := 1) (v := v8_) (m := ((List.length cs) + 1)) (a := (i + 1)) (b := i) (k := ((List.length cs) + 1 - (i + 1))) rfl rfl underlying77 z59 H20_ 3 rfl (by omega) (by omega) ((Nat.min_eq_right (by omega)).trans (by omega)) (pbs_one' _ (by simp [Value.oneCell'])) ?_)
  intro w26_ S28_ H27_
  have S29_ := Same.trans (Same.trans S16_ (Same.drew _)) S28_
  obtain ⟨C23_, hC24_⟩ : ∃ C__, C__ = List.take ((i + 1) * 1) ((pBs cs) ++ [(vP none)]) ++ List.take (((List.length cs) + 1 - (i + 1)) * 1) (List.drop (i * 1) ((pBs cs) ++ [(vP none)])) ++ List.drop ((i + 1) * 1 + ((List.length cs) + 1 - (i + 1)) * 1) ((pBs cs) ++ [(vP none)]) := ⟨_, rfl⟩
  have H30_ : Holds w26_ (cl b3_ 59 [(vP none)] :: ro R :: cl a 79 [iv, v8_, pv] :: sl 59 1 v8_ ((List.length cs) + 1) C23_ :: F) := by rw [hC24_]; exact H27_
  have hl25_ := (Holds.sl_RSw H30_ 3 rfl).1
  refine ⟨⟨Holds.rd H30_ 2 rfl, (Holds.ro_at H30_ 1 rfl)⟩, ?_⟩
  refine A_done (by kernel_rfl) ?_
  refine (X_then (hK17_ _ _ ?_))
  refine C_reg ?_
  refine sm (vP (some ⟨a, 1, none⟩)) ?_
  refine sv (v := (vP (some ⟨a, 1, none⟩))) (by kernel_rfl) ?_
  refine sv (v := v8_) (x_load1 rfl underlying77 rfl ((Holds.rd H30_ 2 rfl) 1 v8_ rfl)) ?_
  refine sm (vI .i64 (i : Int)) ?_
  refine sm (vP (some ⟨e, 0, none⟩)) ?_
  have hr31_ := Holds.sl_RSw H30_ 3 rfl
  refine sv (v := (vP (some ⟨(sb v8_), so v8_ + i, none⟩))) (x_idxSlR (v := v8_) rfl hr31_ rfl underlying77 z59 (by omega) (by omega) (by omega : _ = i) (by rw [Nat.mul_one])) ?_
  refine S_list0 (T_storeSl (v := v8_) (u := (vP (some ⟨e, 0, none⟩))) rfl rfl z59 rfl H30_ 3 rfl (by omega) rfl rfl ?_)
  intro w32_ S34_ H33_
  have S35_ := Same.trans S29_ S34_
  refine wpList_nil ?_
  refine R_0 rfl ?_
  have H36_ := Holds.resl H33_ 3 rfl ((ins_ptr (xs := cs) (e := e) (i := i) (z := .pointer none) (by omega) (by omega) rfl hC24_) : List.set C23_ i (vP (some ⟨e, 0, none⟩)) = pBs (cs.take i ++ e :: cs.drop i)) ((by simp; omega) : (List.length cs) + 1 = (List.length (cs.take i ++ e :: cs.drop i)))
  have H37_ := Holds.pkF H36_ [1, 1, 1] 1
  exact ⟨_, _, rfl, ⟨v8_, rfl, rfl⟩, S35_, H37_⟩
 ·have c19_fp : ¬ ((i : Int) < ((List.length cs) + 1 : Int)) := of_decide_eq_false c19_f
  omega
end Go.Proofs.Ytdfjdmmmlidamaa
