/- Operations of a key's index: lists. -/
import Derived.Test.YtiblemgccgbhoaaKzD0
set_option linter.unusedVariables false
set_option linter.unusedSimpArgs false
namespace Go.Proofs.Ytiblemgccgbhoaa
open Go Go.RowKit Gw

def iEmp : List GM → Bool
  | [g] => decide (g.l.length = 0)
  | _ => false
def kmGet : Option (Int × Int × Int × Int × Int) → KM
  | some (a, b, c, d, e) => ⟨true, a, b, c, d, e, [], 0, 0, []⟩
  | none => kmOk false
def gPos (G : List GM) : Bool := G.all fun g => g.l.all fun r => decide (1 ≤ r.main)
theorem gPos_N {N : List GN} (h : gPos (N.map GN.m) = true) : ∀ x ∈ N, ∀ r ∈ x.l, 1 ≤ r.main := fun x hx r hr => by
  have h1 := List.all_eq_true.1 h x.m (List.mem_map_of_mem hx)
  exact of_decide_eq_true (List.all_eq_true.1 h1 r hr)
/-- One operation of a key's index: puts, and what holds at a number; none: refused, or another one. -/
def iDo (m n : Int) (G : List GM) (o : KO) : Option ((Int × Int × List GM) × KM) :=
  if o.kind = 1 then (if vLessB m n o.rev_Main o.rev_Sub then some ((o.rev_Main, o.rev_Sub, iPut G o.rev_Main o.rev_Sub), kmOk true) else none)
  else if o.kind = 5 then (if iEmp G then none else some ((m, n, G), kmGet (iGet G o.at_)))
  else if o.kind = 6 then (if iEmp G || G.isEmpty || !gPos G then none else some ((m, n, G), kmRev (iSince G o.at_)))
  else none
def KM.to (a : KM) (s : Int × Int × List GM) : KM := ⟨a.ok, a.mm, a.ms, a.cm, a.cs, a.ver, a.rl, s.1, s.2.1, s.2.2⟩
section
variable {m n : Int} {G : List GM} {o : KO} {s : Int × Int × List GM} {a : KM}
theorem iDo_no (h1 : ¬ o.kind = 1) (h5 : ¬ o.kind = 5) (h6 : ¬ o.kind = 6) : iDo m n G o = none := by
  unfold iDo; rw [if_neg h1, if_neg h5, if_neg h6]
theorem iDo_put (h1 : o.kind = 1) (h : iDo m n G o = some (s, a)) : vLessB m n o.rev_Main o.rev_Sub = true ∧ s = (o.rev_Main, o.rev_Sub, iPut G o.rev_Main o.rev_Sub) ∧ a = kmOk true := by
  unfold iDo at h
  rw [if_pos h1] at h
  split at h
  · cases h; exact ⟨by assumption, rfl, rfl⟩
  · cases h
theorem iDo_get (h5 : o.kind = 5) (h : iDo m n G o = some (s, a)) : iEmp G = false ∧ s = (m, n, G) ∧ a = kmGet (iGet G o.at_) := by
  unfold iDo at h
  rw [if_neg (by omega), if_pos h5] at h
  split at h
  · cases h
  · cases h; exact ⟨by simp_all, rfl, rfl⟩
theorem iDo_since (h6 : o.kind = 6) (h : iDo m n G o = some (s, a)) : (iEmp G = false ∧ G ≠ [] ∧ gPos G = true) ∧ s = (m, n, G) ∧ a = kmRev (iSince G o.at_) := by
  unfold iDo at h
  rw [if_neg (by omega), if_neg (by omega), if_pos h6] at h
  split at h
  · cases h
  · rename_i hc
    cases h
    simp only [Bool.or_eq_true, not_or, Bool.not_eq_true, Bool.not_eq_false', List.isEmpty_iff, Bool.not_eq_true'] at hc
    exact ⟨⟨hc.1.1, (fun e => by rw [e] at hc; simp at hc), (by simpa using hc.2)⟩, rfl, rfl⟩
end
def GBd (B : Nat) (G : List GM) : Prop := G.length ≤ B ∧ ∀ g ∈ G, g.l.length ≤ B ∧ 0 ≤ g.ver ∧ g.ver ≤ (B : Int)
theorem GBd.of {B : Nat} {N : List GN} (h : GBd B (N.map GN.m)) : N.length ≤ B ∧ ∀ x ∈ N, x.l.length ≤ B ∧ 0 ≤ x.ver ∧ x.ver ≤ (B : Int) := by
  refine ⟨by have := h.1; rwa [List.length_map] at this, fun x hx => h.2 x.m (List.mem_map_of_mem hx)⟩
theorem GBd.l {B C : Nat} {N : List GN} (h : GBd B (N.map GN.m)) (hc : B ≤ C) : ∀ x ∈ N, x.l.length ≤ C := fun x hx => Nat.le_trans (h.of.2 x hx).1 hc
theorem GBd.v {B : Nat} {C : Int} {N : List GN} (h : GBd B (N.map GN.m)) (hc : (B : Int) ≤ C) : ∀ x ∈ N, 0 ≤ x.ver ∧ x.ver ≤ C := fun x hx => by
  have := h.of.2 x hx
  omega
theorem Tlk_ll {N T : List GN} {lv : Value} {ll : List RV} {B : Nat} (hT : Tlk T lv ll) (h : ∀ x ∈ N ++ T, x.l.length ≤ B) : ll.length ≤ B := by
  rcases hT with ⟨_, _, rfl⟩ | ⟨a, b, c, rfl⟩
  · exact Nat.zero_le _
  · exact h _ (List.mem_append_right _ (List.mem_singleton.2 rfl))
theorem iEmp_ne {N : List GN} (h : iEmp (N.map GN.m) = false) : ∀ x, N = [x] → ¬ x.l.length = 0 := fun x hx => by
  rw [hx] at h
  exact of_decide_eq_false h
theorem gLast_mem {G : List GM} (h : G ≠ []) : gLast G ∈ G := by
  unfold gLast
  rw [List.getLast?_eq_some_getLast h]
  exact List.getLast_mem h
theorem iPut_bd {B : Nat} {G : List GM} {m n : Int} (h : GBd B G) : GBd (B + 1) (iPut G m n) := by
  have hn : GBd (B + 1) (iNew G) ∧ (iNew G ≠ []) ∧ ∀ g ∈ iNew G, g.l.length ≤ B ∧ 0 ≤ g.ver ∧ g.ver ≤ (B : Int) := by
    unfold iNew
    split
    · refine ⟨⟨by simp, ?_⟩, by simp, ?_⟩ <;> (intro g hg; rcases List.mem_singleton.1 hg with rfl; simp)
      omega
    · rename_i h0
      refine ⟨⟨by have := h.1; omega, fun g hg => ?_⟩, fun e => h0 (by rw [e]; rfl), h.2⟩
      have := h.2 g hg
      omega
  obtain ⟨h1, h2, h3⟩ := hn
  have h4 := h3 _ (gLast_mem h2)
  have hlen : 0 < (iNew G).length := List.length_pos_iff.2 h2
  refine ⟨by unfold iPut; have := h1.1; simp; omega, fun g hg => ?_⟩
  rcases List.mem_append.1 hg with hg | hg
  · exact h1.2 g (List.dropLast_subset _ hg)
  · rcases List.mem_singleton.1 hg with rfl
    unfold iAdd
    refine ⟨by simp; omega, by show 0 ≤ (gLast (iNew G)).ver + 1; omega, by show (gLast (iNew G)).ver + 1 ≤ _; omega⟩
theorem sStep_len (at_ : Int) : ∀ (l : List RV) (s : List RV × Int), (l.foldl (sStep at_) s).1.length ≤ s.1.length + l.length := by
  intro l
  induction l with
  | nil => intro s; exact Nat.le_refl _
  | cons r l ih =>
    intro s
    have h1 : (sStep at_ s r).1.length ≤ s.1.length + 1 := by
      unfold sStep
      split
      · omega
      · split
        · simp only [List.length_append, List.length_dropLast, List.length_cons, List.length_nil]; omega
        · simp only [List.length_append, List.length_cons, List.length_nil]; omega
    have := ih (sStep at_ s r)
    rw [List.foldl_cons, List.length_cons]
    omega
theorem flat_len : ∀ (G : List GM), (∀ g ∈ G, g.l.length ≤ 50000) → (G.flatMap GM.l).length ≤ G.length * 50000
  | [], _ => Nat.le_refl _
  | g :: G, h => by
    have h1 := h g (List.mem_cons_self ..)
    have h2 := flat_len G fun x hx => h x (List.mem_cons_of_mem _ hx)
    rw [List.flatMap_cons, List.length_append, List.length_cons]
    omega
theorem iSince_bd {B : Nat} {G : List GM} {at_ : Int} (h : GBd B G) (hB : B ≤ 50000) : (iSince G at_).length ≤ 4000000000000 := by
  unfold iSince
  have h1 := sStep_len at_ ((G.drop (sStartN G at_ (G.length - 1))).flatMap GM.l) ([], 0)
  have h2 := flat_len (G.drop (sStartN G at_ (G.length - 1))) fun g hg => by have := h.2 g (List.mem_of_mem_drop hg); omega
  have h3 := h.1
  rw [List.length_drop] at h2
  simp only [List.length_nil, Nat.zero_add] at h1
  omega

end Go.Proofs.Ytiblemgccgbhoaa
