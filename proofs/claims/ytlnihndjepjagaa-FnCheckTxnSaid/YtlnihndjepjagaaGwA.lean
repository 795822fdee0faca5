/- The own words of these proofs for memory: a heap parted into pieces ('Holds'), and what loads, stores and new blocks do to it. -/
import Derived.WalkKit
import Derived.WalkSpells
import Derived.WalkLawsBesides
import Derived.KernelRfl
namespace Go.Proofs.Ytlnihndjepjagaa.Gw
open Go Go.RowKit

theorem cast1 {α : Sort _} {P : α → Prop} {c c' : α} (h : c = c') (x : P c) : P c' := h ▸ x
theorem cast2 {α β : Sort _} {P : α → β → Prop} {c c' : α} {k k' : β} (h : c = c') (h2 : k = k') (x : P c k) : P c' k' := by subst h; subst h2; exact x
/-! ### Pieces of a heap -/
abbrev HP := Nat → Option Obj
abbrev SP := HP → Prop
def Sub (h g : HP) : Prop := ∀ b o, h b = some o → g b = some o
def Dis (h g : HP) : Prop := ∀ b, h b = none ∨ g b = none
def un (h k : HP) : HP := fun b => match h b with | some o => some o | none => k b

theorem Sub.rfl' (h : HP) : Sub h h := fun _ _ e => e
theorem Sub.trans' {a b c : HP} (h : Sub a b) (k : Sub b c) : Sub a c := fun x o e => k x o (h x o e)
theorem Sub.un_left (h k : HP) : Sub h (un h k) := fun b o e => by simp [un, e]
theorem Sub.un_right {h k : HP} (d : Dis h k) : Sub k (un h k) := fun b o e => by
  rcases d b with d | d
  · simp [un, d, e]
  · rw [d] at e; cases e
theorem Sub.un_lub {h k g : HP} (a : Sub h g) (b : Sub k g) : Sub (un h k) g := fun x o e => by
  unfold un at e
  cases hx : h x with
  | none => rw [hx] at e; exact b x o e
  | some y => rw [hx] at e; cases e; exact a x _ hx
theorem Dis.symm {h k : HP} (d : Dis h k) : Dis k h := fun b => (d b).symm
theorem Dis.sub_left {h h' k : HP} (d : Dis h k) (s : Sub h' h) : Dis h' k := fun b => by
  rcases d b with e | e
  · left
    cases hx : h' b with
    | none => rfl
    | some o => rw [s b o hx] at e; cases e
  · exact .inr e
theorem Dis.sub_right {h k k' : HP} (d : Dis h k) (s : Sub k' k) : Dis h k' := (d.symm.sub_left s).symm
theorem Dis.un_left {h k g : HP} (a : Dis h g) (b : Dis k g) : Dis (un h k) g := fun x => by
  rcases a x with e | e
  · rcases b x with e' | e'
    · left; simp [un, e, e']
    · exact .inr e'
  · exact .inr e

def Sat : List SP → HP → Prop
  | [], _ => True
  | A :: l, g => ∃ h k, Sub h g ∧ Sub k g ∧ Dis h k ∧ A h ∧ Sat l k

theorem Sat.mono {l : List SP} {g g' : HP} (s : Sub g g') (h : Sat l g) : Sat l g' := by
  cases l with
  | nil => trivial
  | cons A l => obtain ⟨h, k, a, b, d, e, f⟩ := h; exact ⟨h, k, a.trans' s, b.trans' s, d, e, f⟩
theorem Sat.swap {A B : SP} {l : List SP} {g : HP} (h : Sat (A :: B :: l) g) : Sat (B :: A :: l) g := by
  obtain ⟨h1, k1, s1, t1, d1, a1, h2, k2, s2, t2, d2, a2, r⟩ := h
  refine ⟨h2, un h1 k2, s2.trans' t1, Sub.un_lub s1 (t2.trans' t1), ?_, a2, h1, k2, Sub.un_left _ _, Sub.un_right (d1.sub_right t2), d1.sub_right t2, a1, r⟩
  exact (Dis.un_left (d1.sub_right s2) d2.symm).symm
theorem Sat.tail {A : SP} {l : List SP} {g : HP} (h : Sat (A :: l) g) : Sat l g := by
  obtain ⟨_, k, _, t, _, _, r⟩ := h
  exact r.mono t
theorem Sat.cons_map {A : SP} {l l' : List SP} (f : ∀ g, Sat l g → Sat l' g) {g : HP} (h : Sat (A :: l) g) : Sat (A :: l') g := by
  obtain ⟨h1, k, s, t, d, a, r⟩ := h
  exact ⟨h1, k, s, t, d, a, f k r⟩
theorem Sat.head_map {A B : SP} {l : List SP} (f : ∀ h, A h → B h) {g : HP} (h : Sat (A :: l) g) : Sat (B :: l) g := by
  obtain ⟨h1, k, s, t, d, a, r⟩ := h
  exact ⟨h1, k, s, t, d, f _ a, r⟩
theorem Sat.bring {l : List SP} : ∀ (i : Nat) {A : SP} {g : HP}, l[i]? = some A → Sat l g → Sat (A :: l.eraseIdx i) g := by
  induction l with
  | nil => intro i A g hi; simp at hi
  | cons B l ih =>
    intro i A g hi h
    cases i with
    | zero => simp at hi; subst hi; exact h
    | succ i =>
      have hi' : l[i]? = some A := by simpa using hi
      exact Sat.swap (Sat.cons_map (fun g' h' => ih i hi' h') h)
theorem Sat.back {l : List SP} : ∀ (i : Nat) {A : SP} {g : HP}, l[i]? = some A → Sat (A :: l.eraseIdx i) g → Sat l g := by
  induction l with
  | nil => intro i A g hi; simp at hi
  | cons B l ih =>
    intro i A g hi h
    cases i with
    | zero => simp at hi; subst hi; exact h
    | succ i =>
      have hi' : l[i]? = some A := by simpa using hi
      exact Sat.cons_map (fun g' h' => ih i hi' h') (Sat.swap h)
theorem Sat.erase {l : List SP} (i : Nat) {g : HP} (h : Sat l g) : Sat (l.eraseIdx i) g := by
  rcases Nat.lt_or_ge i l.length with hi | hi
  · exact (Sat.bring i (List.getElem?_eq_getElem hi) h).tail
  · rw [List.eraseIdx_of_length_le hi]; exact h
theorem Sat.set {l : List SP} (i : Nat) {A B : SP} (hi : l[i]? = some A) {g g' : HP} (h : Sat l g)
    (f : ∀ h k, Sub h g → Sub k g → Dis h k → A h → ∃ h', Sub h' g' ∧ Sub k g' ∧ Dis h' k ∧ B h') : Sat (l.set i B) g' := by
  obtain ⟨h1, k, s, t, d, a, r⟩ := Sat.bring i hi h
  obtain ⟨h', s', t', d', b⟩ := f h1 k s t d a
  have hl : i < l.length := by
    rcases Nat.lt_or_ge i l.length with x | x
    · exact x
    · rw [List.getElem?_eq_none x] at hi; cases hi
  refine Sat.back i (A := B) (by simp [hl]) ?_
  have he : (l.set i B).eraseIdx i = l.eraseIdx i := by
    rw [List.eraseIdx_set_eq]
  rw [he]
  exact ⟨h', k, s', t', d', b, r⟩
theorem Sat.at {l : List SP} (i : Nat) {A : SP} (hi : l[i]? = some A) {g : HP} (h : Sat l g) : ∃ h', Sub h' g ∧ A h' := by
  obtain ⟨h1, _, s, _, _, a, _⟩ := Sat.bring i hi h
  exact ⟨h1, s, a⟩
theorem Sat.append {l m : List SP} {g : HP} : Sat (l ++ m) g ↔ ∃ h k, Sub h g ∧ Sub k g ∧ Dis h k ∧ Sat l h ∧ Sat m k := by
  induction l generalizing g with
  | nil =>
    constructor
    · intro h
      exact ⟨(fun _ => none), g, (fun _ _ e => by cases e), Sub.rfl' g, (fun _ => Or.inl rfl), trivial, h⟩
    · rintro ⟨_, k, _, t, _, _, h⟩
      exact h.mono t
  | cons A l ih =>
    constructor
    · rintro ⟨h1, k1, s, t, d, a, r⟩
      obtain ⟨h2, k2, s2, t2, d2, r1, r2⟩ := ih.1 r
      refine ⟨un h1 h2, k2, Sub.un_lub s (s2.trans' t), t2.trans' t, Dis.un_left (d.sub_right t2) d2, ?_, r2⟩
      exact ⟨h1, h2, Sub.un_left _ _, Sub.un_right (d.sub_right s2), d.sub_right s2, a, r1⟩
    · rintro ⟨h, k, s, t, d, ⟨h1, h2, s1, s2, d1, a, r1⟩, r2⟩
      refine ⟨h1, un h2 k, s1.trans' s, Sub.un_lub (s2.trans' s) t, ?_, a, ih.2 ⟨h2, k, Sub.un_left _ _, Sub.un_right (d.sub_left s2), d.sub_left s2, r1, r2⟩⟩
      exact (Dis.un_left d1.symm ((d.sub_left s1).symm)).symm

/-! ### Worlds -/
def hp (w : World) : HP := fun b => w.heap[b]?
def Holds (w : World) (l : List SP) : Prop := Sat l (hp w)
structure Same (w w' : World) : Prop where
  os : w'.os = w.os
  tape : w'.tape = w.tape
  output : w'.output = w.output
theorem Same.refl (w : World) : Same w w := ⟨rfl, rfl, rfl⟩
theorem Same.trans {a b c : World} (h : Same a b) (k : Same b c) : Same a c := ⟨k.os.trans h.os, k.tape.trans h.tape, k.output.trans h.output⟩
theorem Same.alloc (w : World) (o : Obj) : Same w (w.alloc o) := ⟨rfl, rfl, rfl⟩
theorem Same.setCell (w : World) (a : Addr) (v : Value) : Same w (w.setCell a v) := ⟨rfl, rfl, rfl⟩
theorem Same.drew (w : World) : Same w w.drew := ⟨rfl, rfl, rfl⟩

/-- Block b is a row of cells of element type T, which hold cs; none of them is frozen. -/
def cl (b : Nat) (T : TypeId) (cs : List Value) : SP := fun h => ∃ fr : Nat × Nat, h b = some (.cells cs.toArray T fr) ∧ ∀ i, i < cs.length → ¬ (fr.1 ≤ i ∧ i < fr.2)
/-- Block b is this object. -/
def ob (b : Nat) (o : Obj) : SP := fun h => h b = some o
/-- What is only read. -/
def ro (R : HP) : SP := fun h => Sub R h
/-- A plain fact. -/
def pu (p : Prop) : SP := fun _ => p

theorem Holds.bring {w : World} {l : List SP} (h : Holds w l) (i : Nat) {A : SP} (hi : l[i]? = some A) : Holds w (A :: l.eraseIdx i) := Sat.bring i hi h
theorem Holds.erase {w : World} {l : List SP} (h : Holds w l) (i : Nat) : Holds w (l.eraseIdx i) := Sat.erase i h
theorem Holds.tail {w : World} {A : SP} {l : List SP} (h : Holds w (A :: l)) : Holds w l := Sat.tail h
theorem Holds.drew {w : World} {l : List SP} (h : Holds w l) : Holds w.drew l := h
theorem Holds.cl_block {w : World} {l : List SP} (h : Holds w l) (i : Nat) {b : Nat} {T : TypeId} {cs : List Value} (hi : l[i]? = some (cl b T cs)) :
    ∃ fr : Nat × Nat, w.heap[b]? = some (.cells cs.toArray T fr) ∧ ∀ i, i < cs.length → ¬ (fr.1 ≤ i ∧ i < fr.2) := by
  obtain ⟨h', s, fr, e, hf⟩ := Sat.at i hi h
  exact ⟨fr, s _ _ e, hf⟩
theorem Holds.cl_cell {w : World} {l : List SP} (h : Holds w l) (i : Nat) {b : Nat} {T : TypeId} {cs : List Value} (hi : l[i]? = some (cl b T cs)) {k : Nat} {v : Value}
    (hk : cs[k]? = some v) : w.cell? ⟨b, k, none⟩ = some v := by
  obtain ⟨fr, e, _⟩ := h.cl_block i hi
  rw [cell_of_row w b k _ T fr e]
  simpa using hk
theorem Holds.cl_frozen {w : World} {l : List SP} (h : Holds w l) (i : Nat) {b : Nat} {T : TypeId} {cs : List Value} (hi : l[i]? = some (cl b T cs)) {k : Nat} (hk : k < cs.length) :
    w.frozen? ⟨b, k, none⟩ = false := by
  obtain ⟨fr, e, hf⟩ := h.cl_block i hi
  simp only [World.frozen?, e]
  have := hf k hk
  simp only [Bool.and_eq_false_iff, decide_eq_false_iff_not]
  omega
theorem Holds.ob_block {w : World} {l : List SP} (h : Holds w l) (i : Nat) {b : Nat} {o : Obj} (hi : l[i]? = some (ob b o)) : w.heap[b]? = some o := by
  obtain ⟨h', s, e⟩ := Sat.at i hi h
  exact s _ _ e
theorem Holds.ro_sub {w : World} {l : List SP} (h : Holds w l) (i : Nat) {R : HP} (hi : l[i]? = some (ro R)) : Sub R (hp w) := by
  obtain ⟨h', s, e⟩ := Sat.at i hi h
  exact Sub.trans' e s
theorem Holds.pu {w : World} {l : List SP} (h : Holds w l) (i : Nat) {p : Prop} (hi : l[i]? = some (pu p)) : p := by
  obtain ⟨h', s, e⟩ := Sat.at i hi h
  exact e
theorem Holds.ex {w : World} {α : Type} {A : α → SP} {l : List SP} (h : Holds w ((fun h => ∃ x, A x h) :: l)) : ∃ x, Holds w (A x :: l) := by
  obtain ⟨h1, k, s, t, d, ⟨x, a⟩, r⟩ := h
  exact ⟨x, h1, k, s, t, d, a, r⟩
theorem Holds.two_ne {w : World} {l : List SP} {b c : Nat} {T U : TypeId} {xs ys : List Value} (h : Holds w (cl b T xs :: cl c U ys :: l)) : b ≠ c := by
  obtain ⟨h1, k, s, t, d, ⟨fr, e, _⟩, h2, k2, s2, _, _, ⟨fr2, e2, _⟩, _⟩ := h
  rintro rfl
  rcases d b with x | x
  · rw [x] at e; cases e
  · rw [s2 _ _ e2] at x; cases x

/-- A block is written anew. -/
def upb (g : HP) (b : Nat) (o : Obj) : HP := fun c => if c = b then some o else g c
theorem hp_setBlock (w w' : World) (b : Nat) (o : Obj) (hb : w'.heap[b]? = some o) (hc : ∀ c, c ≠ b → w'.heap[c]? = w.heap[c]?) : hp w' = upb (hp w) b o := by
  funext c
  by_cases h : c = b
  · subst h; simp [upb, hp, hb]
  · simp [upb, hp, h, hc c h]
theorem Sat.upb_at {l : List SP} (i : Nat) {A B : SP} (hi : l[i]? = some A) {g : HP} (h : Sat l g) {b : Nat} {o : Obj}
    (hA : ∀ h, A h → ∃ x, h b = some x) (hB : ∀ h, A h → B (upb h b o)) : Sat (l.set i B) (upb g b o) := by
  refine Sat.set i hi h fun h k s t d a => ⟨upb h b o, ?_, ?_, ?_, hB h a⟩
  · intro c x e
    unfold upb at e ⊢
    split
    · rename_i hc; rw [if_pos hc] at e; exact e
    · rename_i hc; rw [if_neg hc] at e; exact s c x e
  · intro c x e
    unfold upb
    split
    · rename_i hc
      subst hc
      obtain ⟨y, hy⟩ := hA h a
      rcases d c with z | z
      · rw [z] at hy; cases hy
      · rw [z] at e; cases e
    · exact t c x e
  · intro c
    unfold upb
    split
    · rename_i hc
      subst hc
      obtain ⟨y, hy⟩ := hA h a
      rcases d c with z | z
      · rw [z] at hy; cases hy
      · exact .inr z
    · exact d c
theorem Sat.upb_new {l : List SP} {g : HP} (h : Sat l g) {b : Nat} {o : Obj} (hb : g b = none) {B : SP} (hB : B (fun c => if c = b then some o else none)) : Sat (B :: l) (upb g b o) := by
  refine ⟨fun c => if c = b then some o else none, g, ?_, ?_, ?_, hB, h⟩
  · intro c x e
    unfold upb
    dsimp only at e
    split
    · rename_i hc; rw [if_pos hc] at e; exact e
    · rename_i hc; rw [if_neg hc] at e; cases e
  · intro c x e
    unfold upb
    split
    · rename_i hc; subst hc; rw [hb] at e; cases e
    · exact e
  · intro c
    by_cases hc : c = b
    · subst hc; exact .inr hb
    · simp [hc]

theorem Holds.setCell {w : World} {l : List SP} (h : Holds w l) (i : Nat) {b : Nat} {T : TypeId} {cs : List Value} (hi : l[i]? = some (cl b T cs)) (k : Nat) (v : Value) :
    Holds (w.setCell ⟨b, k, none⟩ v) (l.set i (cl b T (cs.set k v))) := by
  obtain ⟨fr, e, _⟩ := h.cl_block i hi
  have hw : hp (w.setCell ⟨b, k, none⟩ v) = upb (hp w) b (.cells (cs.set k v).toArray T fr) := by
    refine hp_setBlock _ _ _ _ ?_ (fun c hc => heap_setCell_other _ _ _ _ hc)
    simp only [World.setCell, Array.getElem?_modify, if_true, e, Option.map_some]
    simp
  unfold Holds
  rw [hw]
  obtain ⟨h0, s0, fr0, e0, hf0⟩ := Sat.at i hi h
  have efr : fr0 = fr := by
    have := s0 _ _ e0
    simp only [hp, e] at this
    injection this with this
    injection this with _ _ this
    exact this.symm
  refine Sat.upb_at i hi h (fun h ⟨fr', e', _⟩ => ⟨_, e'⟩) fun h ⟨fr', e', hf'⟩ => ⟨fr, by simp [upb], ?_⟩
  subst efr
  simpa using hf0
theorem Holds.alloc {w : World} {l : List SP} (h : Holds w l) (cs : Array Value) (T : TypeId) : Holds (w.alloc (.cells cs T)) (cl w.heap.size T cs.toList :: l) := by
  have hw : hp (w.alloc (.cells cs T)) = upb (hp w) w.heap.size (.cells cs T) :=
    hp_setBlock _ _ _ _ (heap_alloc_new w _) (fun c hc => by
      rcases Nat.lt_or_ge c w.heap.size with x | x
      · exact heap_alloc_old w _ x
      · have h1 : (w.alloc (.cells cs T)).heap.size ≤ c := by simp; omega
        rw [Array.getElem?_eq_none h1, Array.getElem?_eq_none x])
  unfold Holds
  rw [hw]
  exact Sat.upb_new h (by simp [hp]) ⟨(0, 0), by simp, by simp⟩
theorem Holds.allocOb {w : World} {l : List SP} (h : Holds w l) (o : Obj) : Holds (w.alloc o) (ob w.heap.size o :: l) := by
  have hw : hp (w.alloc o) = upb (hp w) w.heap.size o :=
    hp_setBlock _ _ _ _ (heap_alloc_new w _) (fun c hc => by
      rcases Nat.lt_or_ge c w.heap.size with x | x
      · exact heap_alloc_old w _ x
      · have h1 : (w.alloc o).heap.size ≤ c := by simp; omega
        rw [Array.getElem?_eq_none h1, Array.getElem?_eq_none x])
  unfold Holds
  rw [hw]
  exact Sat.upb_new h (by simp [hp]) (by simp [ob])
theorem Holds.setOb {w w' : World} {l : List SP} (h : Holds w l) (i : Nat) {b : Nat} {o o' : Obj} (hi : l[i]? = some (ob b o)) (hw : w'.heap = w.heap.setIfInBounds b o') :
    Holds w' (l.set i (ob b o')) := by
  have e := h.ob_block i hi
  have hb : b < w.heap.size := by
    rcases Nat.lt_or_ge b w.heap.size with x | x
    · exact x
    · rw [Array.getElem?_eq_none x] at e; cases e
  have hw : hp w' = upb (hp w) b o' := by
    refine hp_setBlock _ _ _ _ (by rw [hw]; simp [hb]) (fun c hc => by rw [hw]; simp [Ne.symm hc])
  unfold Holds
  rw [hw]
  exact Sat.upb_at i hi h (fun h e' => ⟨_, e'⟩) fun h _ => by simp [upb, ob]

/-! ### Lending: a block becomes one that is only read, and is taken back -/
theorem Holds.lend {w : World} {l : List SP} {R : HP} {A : SP} (h : Holds w (ro R :: A :: l)) : ∃ h0 : HP, A h0 ∧ Dis R h0 ∧ Holds w (ro (un R h0) :: l) := by
  obtain ⟨h1, k1, s1, t1, d1, a1, h2, k2, s2, t2, d2, a2, r⟩ := h
  refine ⟨h2, a2, (d1.sub_left a1).sub_right s2, un h1 h2, k2, Sub.un_lub s1 (s2.trans' t1), t2.trans' t1, Dis.un_left (d1.sub_right t2) d2, ?_, r⟩
  exact Sub.un_lub (a1.trans' (Sub.un_left _ _)) (Sub.un_right (d1.sub_right s2))
theorem Holds.back {w : World} {l : List SP} {R h0 : HP} {A : SP} (hA : A h0) (hd : Dis R h0) (h : Holds w (ro (un R h0) :: l)) : Holds w (ro R :: A :: l) := by
  obtain ⟨h1, k1, s1, t1, d1, a1, r⟩ := h
  have sR : Sub R h1 := (Sub.un_left _ _).trans' a1
  have s0 : Sub h0 h1 := (Sub.un_right hd).trans' a1
  refine ⟨R, un h0 k1, sR.trans' s1, Sub.un_lub (s0.trans' s1) t1, ?_, Sub.rfl' R, h0, k1, Sub.un_left _ _, Sub.un_right (d1.sub_left s0), d1.sub_left s0, hA, r⟩
  exact (Dis.un_left hd.symm (d1.sub_left sR).symm).symm

/-! ### Calls -/
/-- The call returns; Q says what, and which pieces there are behind it. All else is as it was. -/
def Tri (P : Program) (f : FuncId) (args : Array Value) (R : HP) (pre : List SP) (Q : Value → List SP → Prop) : Prop :=
  ∀ (w : World) (F : List SP), Holds w (ro R :: (pre ++ F)) →
    Calls P f args w fun e w' => ∃ v post, e = .returned v ∧ Q v post ∧ Same w w' ∧ Holds w' (ro R :: (post ++ F))
theorem Tri.mono {P : Program} {f : FuncId} {args : Array Value} {R : HP} {pre : List SP} {Q Q' : Value → List SP → Prop} (h : Tri P f args R pre Q) (hq : ∀ v l, Q v l → Q' v l) :
    Tri P f args R pre Q' := fun w F hh => (h w F hh).mono fun _ _ ⟨v, post, e, q, s, k⟩ => ⟨v, post, e, hq _ _ q, s, k⟩

#print axioms Holds.back
end Go.Proofs.Ytlnihndjepjagaa.Gw
