/- Taking all out of a queue of leases: the plain law. -/
import Derived.Test.YtgeggiebefonhaaQuM0
set_option linter.unusedVariables false
set_option linter.unusedSimpArgs false
namespace Go.Proofs.Ytgeggiebefonhaa
open Go Go.RowKit Gw
theorem snoc_ind {α : Type} {p : List α → Prop} (h0 : p []) (hs : ∀ l a, p l → p (l ++ [a])) (l : List α) : p l := by
  rw [← List.reverse_reverse l]
  generalize l.reverse = r
  induction r with
  | nil => exact h0
  | cons a r ih => rw [List.reverse_cons]; exact hs _ _ ih
theorem QStep.one {i t : Int} {D D' : List (Int × Int)} {a : QAns} (h : QStep ⟨1, i, t⟩ D a D') : a = ⟨true, 0, 0, 0⟩ ∧ D'.Perm (dput D i t) := by
  rcases h with ⟨_, h⟩ | ⟨h, _⟩ | ⟨h, _⟩ | ⟨h, _⟩
  · exact h
  all_goals simp at h
theorem QStep.two {i t : Int} {D D' : List (Int × Int)} {a : QAns} (h : QStep ⟨2, i, t⟩ D a D') : D' = D ∧ ((D = [] ∧ a = ⟨false, 0, 0, 0⟩) ∨ ∃ p, p ∈ D ∧ (∀ r ∈ D, p.2 ≤ r.2) ∧ a = ⟨true, p.1, p.2, 0⟩) := by
  rcases h with ⟨h, _⟩ | ⟨_, h⟩ | ⟨h, _⟩ | ⟨h, _⟩
  · simp at h
  · exact h
  all_goals simp at h
theorem QStep.three {i t : Int} {D D' : List (Int × Int)} {a : QAns} (h : QStep ⟨3, i, t⟩ D a D') : (D = [] ∧ D' = [] ∧ a = ⟨false, 0, 0, 0⟩) ∨ ∃ p, D.Perm (p :: D') ∧ (∀ r ∈ D, p.2 ≤ r.2) ∧ a = ⟨true, p.1, p.2, 0⟩ := by
  rcases h with ⟨h, _⟩ | ⟨h, _⟩ | ⟨_, h⟩ | ⟨h, _⟩
  · simp at h
  · simp at h
  · exact h
  · simp at h
theorem QStep.four {i t : Int} {D D' : List (Int × Int)} {a : QAns} (h : QStep ⟨4, i, t⟩ D a D') : D' = D ∧ a = ⟨true, 0, 0, D.length⟩ := by
  rcases h with ⟨h, _⟩ | ⟨h, _⟩ | ⟨h, _⟩ | ⟨_, h⟩
  · simp at h
  · simp at h
  · simp at h
  · exact h
theorem QRun.inv_nil {an : List QAns} {D : List (Int × Int)} (h : QRun [] an D) : an = [] ∧ D = [] := by
  generalize e : ([] : List QOp) = ops at h
  cases h with
  | nil => exact ⟨rfl, rfl⟩
  | snoc h hs => simp at e
theorem QRun.inv {ops : List QOp} {op : QOp} {an : List QAns} {D' : List (Int × Int)} (h : QRun (ops ++ [op]) an D') : ∃ an' a D, an = an' ++ [a] ∧ QRun ops an' D ∧ QStep op D a D' := by
  generalize e : ops ++ [op] = all at h
  cases h with
  | nil => simp at e
  | @snoc ops' an' D _ op' a h hs =>
    obtain ⟨e1, e2⟩ := List.append_inj' e rfl
    cases e2; subst e1
    exact ⟨an', a, D, rfl, h, hs⟩
theorem QRun.len {ops : List QOp} {an : List QAns} {D : List (Int × Int)} (h : QRun ops an D) : an.length = ops.length := by
  induction h with
  | nil => rfl
  | snoc h hs ih => simp [ih]
theorem dput_perm {D E : List (Int × Int)} (h : D.Perm E) (id t : Int) : (dput D id t).Perm (dput E id t) := by
  unfold dput
  have : D.any (fun p => decide (p.1 = id)) = E.any (fun p => decide (p.1 = id)) := h.any_eq
  rw [this]
  split
  · exact h.map _
  · exact h.append_right _
def dict (z : List (Int × Int)) : List (Int × Int) := z.foldl (fun D p => dput D p.1 p.2) []
def lastT (z : List (Int × Int)) (id : Int) : Option Int := z.foldl (fun r p => if p.1 = id then some p.2 else r) none
theorem dict_snoc (z : List (Int × Int)) (p : Int × Int) : dict (z ++ [p]) = dput (dict z) p.1 p.2 := by simp [dict]
theorem lastT_snoc (z : List (Int × Int)) (p : Int × Int) (id : Int) : lastT (z ++ [p]) id = if p.1 = id then some p.2 else lastT z id := by simp [lastT]
theorem dput_keys (D : List (Int × Int)) (id t : Int) : (dput D id t).map (·.1) = if D.any (fun p => p.1 = id) then D.map (·.1) else D.map (·.1) ++ [id] := by
  unfold dput
  split
  · rw [List.map_map]
    refine List.map_congr_left fun p _ => ?_
    simp only [Function.comp]
    split
    · rename_i h; exact h.symm
    · rfl
  · simp
theorem dict_len (z : List (Int × Int)) : (dict z).length ≤ z.length := by
  induction z using snoc_ind with
  | h0 => simp [dict]
  | hs z p ih =>
    rw [dict_snoc]
    have := dput_len (dict z) p.1 p.2
    simp; omega
theorem dict_nodup (z : List (Int × Int)) : ((dict z).map (·.1)).Nodup := by
  induction z using snoc_ind with
  | h0 => simp [dict]
  | hs z p ih =>
    rw [dict_snoc, dput_keys]
    split
    · exact ih
    · rename_i hn
      rw [List.nodup_append]
      refine ⟨ih, by simp, fun x hx y hy => ?_⟩
      simp only [List.mem_singleton] at hy
      subst hy
      rintro rfl
      obtain ⟨r, hr, e⟩ := List.mem_map.1 hx
      exact hn (List.any_eq_true.2 ⟨r, hr, by simp [e]⟩)
theorem dict_last (z : List (Int × Int)) : ∀ p ∈ dict z, lastT z p.1 = some p.2 := by
  induction z using snoc_ind with
  | h0 => intro p h; simp [dict] at h
  | hs z r ih =>
    intro p hp
    rw [dict_snoc] at hp
    rw [lastT_snoc]
    unfold dput at hp
    split at hp
    · obtain ⟨s, hs, e⟩ := List.mem_map.1 hp
      split at e
      · subst e; rw [if_pos rfl]
      · rename_i hne
        subst e
        rw [if_neg (fun e => hne e.symm)]
        exact ih s hs
    · rename_i hn
      rcases List.mem_append.1 hp with hp | hp
      · have : ¬ r.1 = p.1 := fun e => hn (List.any_eq_true.2 ⟨p, hp, by simp [e]⟩)
        rw [if_neg this]; exact ih p hp
      · simp only [List.mem_singleton] at hp; subst hp; rw [if_pos rfl]
theorem dict_has (z : List (Int × Int)) : ∀ p ∈ z, ∃ r ∈ dict z, r.1 = p.1 := by
  have key : ∀ (z : List (Int × Int)) (i : Int), i ∈ z.map (·.1) → i ∈ (dict z).map (·.1) := by
    intro z
    induction z using snoc_ind with
    | h0 => intro i h; simp at h
    | hs z r ih =>
      intro i hi
      rw [dict_snoc, dput_keys]
      simp only [List.map_append, List.mem_append, List.map_cons, List.map_nil, List.mem_singleton] at hi
      split
      · rename_i hy
        rcases hi with hi | rfl
        · exact ih i hi
        · obtain ⟨s, hs, e⟩ := List.any_eq_true.1 hy
          exact List.mem_map.2 ⟨s, hs, by simpa using e⟩
      · rcases hi with hi | rfl
        · exact List.mem_append_left _ (ih i hi)
        · simp
  intro p hp
  obtain ⟨r, hr, e⟩ := List.mem_map.1 (key z p.1 (List.mem_map_of_mem hp))
  exact ⟨r, hr, e⟩
def regs (z : List (Int × Int)) : List QOp := z.map fun p => ⟨1, p.1, p.2⟩
theorem run_regs (z : List (Int × Int)) : ∀ {an : List QAns} {D : List (Int × Int)}, QRun (regs z) an D → D.Perm (dict z) := by
  induction z using snoc_ind with
  | h0 => intro an D h; rw [(QRun.inv_nil h).2]; exact List.Perm.refl _
  | hs z p ih =>
    intro an D h
    rw [regs, List.map_append] at h
    obtain ⟨an', a, D0, rfl, h0, hs⟩ := QRun.inv h
    rw [dict_snoc]
    rcases hs with ⟨_, _, hp⟩ | ⟨h, _⟩ | ⟨h, _⟩ | ⟨h, _⟩
    · exact hp.trans (dput_perm (ih h0) _ _)
    · simp at h
    · simp at h
    · simp at h
def pans (p : Int × Int) : QAns := ⟨true, p.1, p.2, 0⟩
def pop3 : QOp := ⟨3, 0, 0⟩
theorem run_pops {L : List QOp} : ∀ (k : Nat) {an : List QAns} {D : List (Int × Int)}, QRun (L ++ List.replicate k pop3) an D →
    ∃ an0 D0 P z, an = an0 ++ (P.map pans ++ List.replicate z ⟨false, 0, 0, 0⟩) ∧ QRun L an0 D0 ∧ D0.Perm (P ++ D) ∧ P.Pairwise (fun a b => a.2 ≤ b.2) ∧ (∀ p ∈ P, ∀ r ∈ D, p.2 ≤ r.2) ∧ P.length + z = k ∧ (0 < z → D = [])
  | 0, an, D, h => ⟨an, D, [], 0, by simp, by simpa using h, by simp, List.Pairwise.nil, (fun p hp => by cases hp), rfl, fun h => by omega⟩
  | k + 1, an, D, h => by
    rw [List.replicate_succ', ← List.append_assoc] at h
    obtain ⟨an', a, D1, rfl, h0, hs⟩ := QRun.inv h
    obtain ⟨an0, D0, P, z, rfl, hr, hp, hsort, hle, hk, hz⟩ := run_pops k h0
    have hs := QStep.three hs
    · rcases hs with ⟨rfl, rfl, rfl⟩ | ⟨p, hpd, hmin, rfl⟩
      · exact ⟨an0, D0, P, z + 1, by rw [List.replicate_succ']; simp [List.append_assoc], hr, hp, hsort, hle, by omega, fun _ => rfl⟩
      · have hz0 : z = 0 := by
          rcases Nat.eq_zero_or_pos z with e | e
          · exact e
          · rw [hz e] at hpd; simp at hpd
        subst hz0
        refine ⟨an0, D0, P ++ [p], 0, by simp [pans], hr, ?_, ?_, ?_, by simp; omega, fun h => by omega⟩
        · rw [List.append_assoc]
          exact hp.trans (hpd.append_left P)
        · rw [List.pairwise_append]
          refine ⟨hsort, List.pairwise_singleton _ _, fun a ha b hb => ?_⟩
          simp only [List.mem_singleton] at hb; subst hb
          exact hle a ha _ (hpd.mem_iff.2 (by simp))
        · intro a ha r hr'
          rcases List.mem_append.1 ha with ha | ha
          · exact hle a ha r (hpd.mem_iff.2 (List.mem_cons_of_mem _ hr'))
          · simp only [List.mem_singleton] at ha; subst ha
            exact hmin r (hpd.mem_iff.2 (List.mem_cons_of_mem _ hr'))
/-- All that is taken out. -/
structure Out (z : List (Int × Int)) (an : List QAns) (P : List (Int × Int)) : Prop where
  len : an.length = 2 * z.length + 1
  few : P.length ≤ z.length
  yes : ∀ (j : Nat) (p : Int × Int), P[j]? = some p → an[z.length + j]? = some (pans p)
  no : ∀ (j : Nat) (a : QAns), P.length ≤ j → an[z.length + j]? = some a → a.ok = false
  sorted : P.Pairwise fun a b => a.2 ≤ b.2
  nodup : (P.map (·.1)).Nodup
  last : ∀ p ∈ P, lastT z p.1 = some p.2
  has : ∀ p ∈ z, ∃ r ∈ P, r.1 = p.1
theorem empties {z : List (Int × Int)} {an : List QAns} {D : List (Int × Int)} (h : QRun (regs z ++ List.replicate (z.length + 1) pop3) an D) : ∃ P, Out z an P := by
  have hlen := h.len
  obtain ⟨an0, D0, P, y, rfl, hr, hp, hsort, hle, hk, hy⟩ := run_pops _ h
  have hd := run_regs z hr
  have hl0 := hr.len
  have e1 : (regs z).length = z.length := by simp [regs]
  have hP : P.length ≤ z.length := by
    have a := hp.length_eq
    have b := hd.length_eq
    have c := dict_len z
    simp at a
    omega
  have hD : D = [] := hy (by omega)
  subst hD
  rw [List.append_nil] at hp
  have hpd : P.Perm (dict z) := hp.symm.trans hd
  refine ⟨P, ⟨by rw [hlen]; simp [e1]; omega, hP, fun j p hj => ?_, fun j a hj ha => ?_, hsort, ?_, fun p hp => dict_last z p (hpd.mem_iff.1 hp), fun p hp => ?_⟩⟩
  · have hj' := (List.getElem?_eq_some_iff.1 hj).1
    rw [List.getElem?_append_right (by omega), show z.length + j - an0.length = j by omega, List.getElem?_append_left (by simpa using hj')]
    simp [hj]
  · rw [List.getElem?_append_right (by omega), show z.length + j - an0.length = j by omega, List.getElem?_append_right (by simpa using hj)] at ha
    have := List.mem_of_getElem? ha
    rw [List.mem_replicate] at this
    rw [this.2]
  · exact (hpd.map _).nodup_iff.2 (dict_nodup z)
  · obtain ⟨r, hr, e⟩ := dict_has z p hp
    exact ⟨r, hpd.mem_iff.2 hr, e⟩
/-! ### A small history -/
def awakeOps : List QOp := [⟨1, 1, 5⟩, ⟨1, 2, 3⟩, ⟨2, 0, 0⟩, ⟨1, 2, 9⟩, ⟨3, 0, 0⟩, ⟨4, 0, 0⟩]
theorem two_min {D : List (Int × Int)} {a b p : Int × Int} (h : D.Perm [a, b]) (hp : p ∈ D) (hm : ∀ r ∈ D, p.2 ≤ r.2) (hab : b.2 < a.2) : p = b := by
  have hb : b ∈ D := h.mem_iff.2 (by simp)
  have := hm b hb
  rcases List.mem_cons.1 (h.mem_iff.1 hp) with rfl | hp
  · omega
  · simpa using hp
theorem awake {an : List QAns} {D : List (Int × Int)} (h : QRun awakeOps an D) : an = [⟨true, 0, 0, 0⟩, ⟨true, 0, 0, 0⟩, ⟨true, 2, 3, 0⟩, ⟨true, 0, 0, 0⟩, ⟨true, 1, 5, 0⟩, ⟨true, 0, 0, 1⟩] := by
  obtain ⟨an5, a5, D5, rfl, h, s5⟩ := QRun.inv (ops := [⟨1, 1, 5⟩, ⟨1, 2, 3⟩, ⟨2, 0, 0⟩, ⟨1, 2, 9⟩, ⟨3, 0, 0⟩]) (op := ⟨4, 0, 0⟩) h
  obtain ⟨an4, a4, D4, rfl, h, s4⟩ := QRun.inv (ops := [⟨1, 1, 5⟩, ⟨1, 2, 3⟩, ⟨2, 0, 0⟩, ⟨1, 2, 9⟩]) (op := ⟨3, 0, 0⟩) h
  obtain ⟨an3, a3, D3, rfl, h, s3⟩ := QRun.inv (ops := [⟨1, 1, 5⟩, ⟨1, 2, 3⟩, ⟨2, 0, 0⟩]) (op := ⟨1, 2, 9⟩) h
  obtain ⟨an2, a2, D2, rfl, h, s2⟩ := QRun.inv (ops := [⟨1, 1, 5⟩, ⟨1, 2, 3⟩]) (op := ⟨2, 0, 0⟩) h
  obtain ⟨an1, a1, D1, rfl, h, s1⟩ := QRun.inv (ops := [⟨1, 1, 5⟩]) (op := ⟨1, 2, 3⟩) h
  obtain ⟨an0, a0, D0, rfl, h, s0⟩ := QRun.inv (ops := []) (op := ⟨1, 1, 5⟩) h
  obtain ⟨rfl, rfl⟩ := QRun.inv_nil h
  obtain ⟨rfl, p0⟩ := s0.one
  obtain ⟨rfl, p1⟩ := s1.one
  have p1 := p1.trans (dput_perm p0 2 3)
  replace p1 : D2.Perm [(1, 5), (2, 3)] := p1
  obtain ⟨e2, s2⟩ := s2.two
  subst e2
  rcases s2 with ⟨rfl, _⟩ | ⟨p, hp, hm, rfl⟩
  · have := p1.length_eq; simp at this
  obtain rfl := two_min p1 hp hm (by decide)
  obtain ⟨rfl, p3⟩ := s3.one
  have p3 := p3.trans (dput_perm p1 2 9)
  replace p3 : D4.Perm [(1, 5), (2, 9)] := p3
  rcases s4.three with ⟨rfl, _⟩ | ⟨p, hp, hm, rfl⟩
  · have := p3.length_eq; simp at this
  obtain rfl := two_min (p3.trans (List.Perm.swap _ _ _)) (hp.mem_iff.2 (by simp)) hm (by decide)
  obtain ⟨e5, rfl⟩ := s5.four
  have hl : D5.length = 1 := by have a := hp.length_eq; have b := p3.length_eq; simp at a b; omega
  rw [hl]; rfl
end Go.Proofs.Ytgeggiebefonhaa
