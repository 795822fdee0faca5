/- Of each main number from a number on the last change: what the package reckons is what the reference says. -/
import Derived.Test.YtiblemgccgbhoaaKzA0
set_option linter.unusedVariables false
set_option linter.unusedSimpArgs false
namespace Go.Proofs.Ytiblemgccgbhoaa
open Go Go.RowKit Gw
def rLt (r : RV) (m n : Int) : Prop := r.main < m ∨ (r.main = m ∧ r.sub < n)
/-- What is true of a key's changes: they rise, from 1, 0 on; and those ahead of a life are ahead of its beginning. -/
structure vOk (l : List VR) : Prop where
  lt : ∀ (i j : Nat) (x y : VR), i < j → l[i]? = some x → l[j]? = some y → rLt x.rv y.rev_Main y.rev_Sub
  pos : ∀ x ∈ l, 1 ≤ x.rev_Main ∧ 0 ≤ x.rev_Sub
  life : ∀ (i j : Nat) (x y z : VR), i ≤ j → l[i]? = some x → l[j]? = some y → l[j + 1]? = some z → y.gone = true → rLt x.rv z.created_Main z.created_Sub
def sinceC (at_ : Int) : List VR → List RV
  | [] => []
  | x :: r => (if at_ ≤ x.rev_Main ∧ (∀ y, r.head? = some y → y.rev_Main ≠ x.rev_Main) then [x.rv] else []) ++ sinceC at_ r
instance (x : VR) (r : List VR) : Decidable (∀ y, r.head? = some y → y.rev_Main ≠ x.rev_Main) := by
  cases r with
  | nil => exact isTrue (fun y h => by cases h)
  | cons a r => exact decidable_of_iff (a.rev_Main ≠ x.rev_Main) ⟨fun h y e => by cases e; exact h, fun h => h a rfl⟩
theorem since_from (l : List VR) (at_ : Int) : ∀ (d k : Nat), k + d = l.length → (vSieve l (vSinceP l at_) l.length).map VR.rv = (vSieve l (vSinceP l at_) k).map VR.rv ++ sinceC at_ (l.drop k) := by
  intro d
  induction d with
  | zero => intro k hk; rw [show k = l.length by omega, List.drop_length, sinceC, List.append_nil]
  | succ d ih =>
    intro k hk
    rw [ih (k + 1) (by omega)]
    obtain ⟨x, hx⟩ : ∃ x, l[k]? = some x := ⟨l[k], List.getElem?_eq_getElem (by omega)⟩
    rw [drop_at hx, sinceC, ← List.append_assoc]
    congr 1
    have hh : (l.drop (k + 1)).head? = l[k + 1]? := by rw [List.head?_drop]
    by_cases hp : vSinceP l at_ k x = true
    · rw [vSieve_yes hx hp, List.map_append, List.map_singleton]
      congr 1
      unfold vSinceP at hp
      rw [if_pos]
      refine ⟨by simp at hp; exact hp.1, fun y hy => ?_⟩
      rw [hh] at hy
      rw [hy] at hp
      simp at hp
      exact hp.2
    · have hp' : vSinceP l at_ k x = false := by simpa using hp
      rw [vSieve_no hx hp', if_neg, List.append_nil]
      rintro ⟨h1, h2⟩
      apply hp
      unfold vSinceP
      rw [decide_eq_true h1, Bool.true_and]
      cases hn : l[k + 1]? with
      | none => rfl
      | some y => exact decide_eq_true (h2 y (by rw [hh, hn]))
theorem vSince_C (l : List VR) (at_ : Int) : vSince l at_ = sinceC at_ l := by
  unfold vSince
  have h := since_from l at_ l.length 0 (by omega)
  rw [h]
  simp [vSieve]
theorem foldl_since (at_ : Int) : ∀ (l : List VR) (out : List RV) (la : Int), (∀ x ∈ l, la ≤ x.rev_Main ∧ 0 ≤ x.rev_Sub) → (∀ (i j : Nat) (x y : VR), i < j → l[i]? = some x → l[j]? = some y → x.rev_Main ≤ y.rev_Main) →
    ((l.map VR.rv).foldl (sStep at_) (out, la)).1 = (if ∃ y, l.head? = some y ∧ at_ ≤ y.rev_Main ∧ y.rev_Main = la then out.dropLast else out) ++ sinceC at_ l := by
  intro l
  induction l with
  | nil => intro out la _ _; simp [sinceC]
  | cons x r ih =>
    intro out la hp hm
    have hx := hp x (List.mem_cons_self ..)
    have hr : ∀ y ∈ r, x.rev_Main ≤ y.rev_Main ∧ 0 ≤ y.rev_Sub := fun y hy => by
      obtain ⟨j, hj⟩ := List.getElem?_of_mem hy
      exact ⟨hm 0 (j + 1) x y (by omega) rfl (by simpa using hj), (hp y (List.mem_cons_of_mem _ hy)).2⟩
    have hm2 : ∀ (i j : Nat) (a b : VR), i < j → r[i]? = some a → r[j]? = some b → a.rev_Main ≤ b.rev_Main := fun i j a b h1 h2 h3 => hm (i + 1) (j + 1) a b (by omega) (by simpa using h2) (by simpa using h3)
    rw [List.map_cons, List.foldl_cons, sinceC]
    by_cases hlt : x.rev_Main < at_
    · have e : sStep at_ (out, la) x.rv = (out, la) := by
        unfold sStep
        rw [if_pos]
        unfold vLessB
        exact decide_eq_true (.inl hlt)
      rw [e, ih out la (fun y hy => ⟨by have := hr y hy; omega, (hr y hy).2⟩) hm2]
      rw [if_neg (show ¬ (∃ y, (x :: r).head? = some y ∧ at_ ≤ y.rev_Main ∧ y.rev_Main = la) from by rintro ⟨y, hy, h1, h2⟩; cases hy; omega)]
      rw [if_neg (show ¬ (at_ ≤ x.rev_Main ∧ _) from fun h => by omega), List.nil_append]
      congr 1
      rw [if_neg]
      rintro ⟨y, hy, h1, h2⟩
      have := hr y (List.mem_of_mem_head? hy)
      omega
    · have e : sStep at_ (out, la) x.rv = ((if x.rev_Main = la then out.dropLast else out) ++ [x.rv], x.rev_Main) := by
        unfold sStep
        rw [if_neg]
        · by_cases h : x.rev_Main = la
          · rw [if_pos (show x.rv.main = la from h), if_pos h, h]
          · rw [if_neg (show ¬ x.rv.main = la from h), if_neg h]; rfl
        · unfold vLessB
          rw [decide_eq_true_eq]
          show ¬ (x.rev_Main < at_ ∨ (x.rev_Main = at_ ∧ x.rev_Sub < 0))
          omega
      rw [e, ih _ _ hr hm2]
      have hb : (if ∃ y, (x :: r).head? = some y ∧ at_ ≤ y.rev_Main ∧ y.rev_Main = la then out.dropLast else out) = (if x.rev_Main = la then out.dropLast else out) := by
        by_cases h : x.rev_Main = la
        · rw [if_pos h, if_pos ⟨x, rfl, by omega, h⟩]
        · rw [if_neg h, if_neg]
          rintro ⟨y, hy, _, h2⟩
          cases hy
          exact h h2
      rw [hb]
      by_cases hn : ∀ y, r.head? = some y → y.rev_Main ≠ x.rev_Main
      · rw [if_neg (show ¬ (∃ y, r.head? = some y ∧ at_ ≤ y.rev_Main ∧ y.rev_Main = x.rev_Main) from by rintro ⟨y, hy, _, h2⟩; exact hn y hy h2)]
        rw [if_pos (show at_ ≤ x.rev_Main ∧ (∀ y, r.head? = some y → y.rev_Main ≠ x.rev_Main) from ⟨by omega, hn⟩), List.append_assoc]
      · have hn2 : ∃ y, r.head? = some y ∧ y.rev_Main = x.rev_Main := by
          by_cases h : ∃ y, r.head? = some y ∧ y.rev_Main = x.rev_Main
          · exact h
          · exact absurd (fun y hy e => h ⟨y, hy, e⟩) hn
        obtain ⟨y, hy, h2⟩ := hn2
        rw [if_pos (⟨y, hy, by omega, h2⟩ : ∃ y, r.head? = some y ∧ at_ ≤ y.rev_Main ∧ y.rev_Main = x.rev_Main)]
        rw [if_neg (show ¬ (at_ ≤ x.rev_Main ∧ (∀ y, r.head? = some y → y.rev_Main ≠ x.rev_Main)) from fun h => hn h.2), List.dropLast_concat, List.nil_append]
theorem since_all {l : List VR} (h : vOk l) (at_ : Int) : ((l.map VR.rv).foldl (sStep at_) ([], 0)).1 = vSince l at_ := by
  rw [foldl_since at_ l [] 0 (fun x hx => by have := h.pos x hx; omega) (fun i j x y hij hx hy => (h.lt i j x y hij hx hy).elim (fun h1 => Int.le_of_lt h1) (fun h1 => Int.le_of_eq h1.1)), vSince_C]
  split <;> simp
def GOrd (G : List GM) : Prop := G.Pairwise fun a b => b.l ≠ [] → ∀ r ∈ a.l, rLt r b.cm b.cs
theorem last_split {G : List GM} (h : G ≠ []) : G.dropLast ++ [gLast G] = G := by
  unfold gLast
  rw [List.getLast?_eq_some_getLast h]
  exact List.dropLast_concat_getLast h
theorem flat_add (G : List GM) (v : VR) : (G.dropLast ++ [gAdd (gLast G) v]).flatMap GM.l = G.flatMap GM.l ++ [v.rv] := by
  by_cases h : G = []
  · subst h; rfl
  · conv => rhs; rw [← last_split h]
    rw [List.flatMap_append, List.flatMap_append, List.flatMap_singleton, List.flatMap_singleton, List.append_assoc]; rfl
theorem dGo_flat (l : List VR) : (dGo l).1.flatMap GM.l = l.map VR.rv := by
  suffices h : ∀ (r l : List VR) (s : List GM × Bool), s.1.flatMap GM.l = l.map VR.rv → (r.foldl dStep s).1.flatMap GM.l = (l ++ r).map VR.rv by
    have := h l [] ([], false) rfl
    exact this
  intro r
  induction r with
  | nil => intro l s h; rw [List.append_nil]; exact h
  | cons v r ih =>
    intro l s h
    rw [List.foldl_cons, show l ++ v :: r = (l ++ [v]) ++ r by simp]
    refine ih (l ++ [v]) _ ?_
    unfold dStep
    dsimp only
    rw [flat_add, List.map_append]
    split
    · rw [h]; rfl
    · rw [List.flatMap_append, h]; simp
theorem dGens_flat (l : List VR) : (dGens l).flatMap GM.l = l.map VR.rv := by
  unfold dGens
  rw [List.flatMap_append, dGo_flat]
  split <;> simp
theorem GOrd.add {G : List GM} (v : VR) (h : GOrd G) (hG : G ≠ []) (hn : (gLast G).l ≠ [] ∨ ∀ a ∈ G.dropLast, ∀ r ∈ a.l, rLt r (gLast G).cm (gLast G).cs) : GOrd (G.dropLast ++ [gAdd (gLast G) v]) := by
  have h2 : GOrd (G.dropLast ++ [gLast G]) := by rw [last_split hG]; exact h
  unfold GOrd at h2 ⊢
  rw [List.pairwise_append] at h2 ⊢
  refine ⟨h2.1, List.pairwise_singleton _ _, fun a ha b hb _ r hr => ?_⟩
  rcases List.mem_singleton.1 hb with rfl
  rcases hn with hn | hn
  · exact h2.2.2 a ha _ (List.mem_singleton.2 rfl) hn r hr
  · exact hn a ha r hr
theorem dGo_take {l : List VR} (h : vOk l) : ∀ n, n ≤ l.length → GOrd (dGo (l.take n)).1 ∧ (∀ g ∈ (dGo (l.take n)).1, g.l ≠ []) ∧ (0 < n → (dGo (l.take n)).1 ≠ [] ∧ ∃ y, l[n - 1]? = some y ∧ (dGo (l.take n)).2 = !y.gone) := by
  intro n
  induction n with
  | zero => intro _; exact ⟨List.Pairwise.nil, (fun g hg => by cases hg), fun h => absurd h (by omega)⟩
  | succ n ih =>
    intro hn
    obtain ⟨h1, h2, h3⟩ := ih (by omega)
    obtain ⟨x, hx⟩ : ∃ x, l[n]? = some x := ⟨l[n], List.getElem?_eq_getElem (by omega)⟩
    have hflat := dGo_flat (l.take n)
    rw [rv_take_snoc hx, dGo_snoc]
    generalize hs : dGo (l.take n) = s at h1 h2 h3 hflat
    obtain ⟨G, b⟩ := s
    simp only at h1 h2 h3 hflat
    have hne : ∀ g ∈ (dStep (G, b) x).1, g.l ≠ [] := by
      intro g hg
      unfold dStep at hg
      dsimp only at hg
      rcases List.mem_append.1 hg with hg | hg
      · split at hg
        · exact h2 g (List.dropLast_subset _ hg)
        · rw [List.dropLast_concat] at hg; exact h2 g hg
      · rcases List.mem_singleton.1 hg with rfl
        unfold gAdd
        simp
    refine ⟨?_, hne, fun _ => ⟨by unfold dStep; simp, x, by simpa using hx, rfl⟩⟩
    unfold dStep
    dsimp only
    by_cases hb : b = true
    · rw [if_pos hb]
      have hG : G ≠ [] := by
        rcases Nat.eq_zero_or_pos n with h0 | h0
        · subst h0
          have : (G, b) = ([], false) := hs.symm
          cases this; cases hb
        · exact (h3 h0).1
      exact h1.add x hG (.inl (h2 _ (gLast_mem hG)))
    · rw [if_neg hb]
      have e : gLast (G ++ [(⟨0, x.created_Main, x.created_Sub, []⟩ : GM)]) = ⟨0, x.created_Main, x.created_Sub, []⟩ := by simp [gLast]
      refine GOrd.add x ?_ (by simp) (.inr ?_)
      · unfold GOrd
        rw [List.pairwise_append]
        exact ⟨h1, List.pairwise_singleton _ _, fun a ha c hc hcl => by rcases List.mem_singleton.1 hc with rfl; exact absurd rfl hcl⟩
      · rw [List.dropLast_concat, e]
        intro a ha r hr
        have hr2 : r ∈ G.flatMap GM.l := List.mem_flatMap.2 ⟨a, ha, hr⟩
        rw [hflat] at hr2
        obtain ⟨y, hy, rfl⟩ := List.mem_map.1 hr2
        obtain ⟨i, hi⟩ := List.getElem?_of_mem hy
        have hin : i < n := by
          have := (List.getElem?_eq_some_iff.1 hi).1
          rw [List.length_take] at this; omega
        have hi2 : l[i]? = some y := by rw [List.getElem?_take_of_lt hin] at hi; exact hi
        obtain ⟨_, z, hz, hbz⟩ := h3 (by omega)
        have hzg : z.gone = true := by
          cases hg : z.gone with
          | true => rfl
          | false => rw [hg] at hbz; exact absurd hbz hb
        exact h.life i (n - 1) y z x (by omega) hi2 hz (by rw [show n - 1 + 1 = n by omega]; exact hx) hzg
theorem foldl_skip {at_ : Int} (p q : List RV) (s : List RV × Int) (h : ∀ r ∈ p, vLessB r.main r.sub at_ 0 = true) : (p ++ q).foldl (sStep at_) s = q.foldl (sStep at_) s := by
  induction p with
  | nil => rfl
  | cons a p ih =>
    rw [List.cons_append, List.foldl_cons, show sStep at_ s a = s from if_pos (h a (List.mem_cons_self ..))]
    exact ih fun r hr => h r (List.mem_cons_of_mem _ hr)
theorem sStart_spec (G : List GM) (at_ : Int) : ∀ n, sStartN G at_ n = 0 ∨ ∃ g, G[sStartN G at_ n]? = some g ∧ g.l ≠ [] ∧ vLessB g.cm g.cs at_ 0 = true
  | 0 => .inl rfl
  | n + 1 => by
    unfold sStartN
    cases hg : G[n + 1]? with
    | none => exact sStart_spec G at_ n
    | some g =>
      dsimp only
      split
      · exact sStart_spec G at_ n
      · split
        · rename_i h1 h2
          exact .inr ⟨g, hg, fun e => h1 (by rw [e]; rfl), h2⟩
        · exact sStart_spec G at_ n
theorem iSince_dGens {l : List VR} (h : vOk l) (at_ : Int) : iSince (dGens l) at_ = vSince l at_ := by
  rw [← since_all h, ← dGens_flat]
  unfold iSince
  generalize hc : sStartN (dGens l) at_ ((dGens l).length - 1) = c
  conv => rhs; rw [← List.take_append_drop c (dGens l), List.flatMap_append]
  rw [foldl_skip]
  intro r hr
  rcases sStart_spec (dGens l) at_ ((dGens l).length - 1) with h0 | ⟨g, hg, hgl, hlt⟩
  · rw [hc] at h0; subst h0; simp at hr
  · rw [hc] at hg
    obtain ⟨a, ha, hra⟩ := List.mem_flatMap.1 hr
    have hord : GOrd (dGens l) := by
      have h2 := (dGo_take h l.length (Nat.le_refl _)).1
      rw [List.take_length] at h2
      unfold dGens GOrd
      split
      · rw [List.pairwise_append]
        exact ⟨h2, List.pairwise_singleton _ _, fun a ha c hc hcl => by rcases List.mem_singleton.1 hc with rfl; exact absurd rfl hcl⟩
      · rw [List.append_nil]; exact h2
    obtain ⟨i, hi⟩ := List.getElem?_of_mem ha
    have hin : i < c := by
      have := (List.getElem?_eq_some_iff.1 hi).1
      rw [List.length_take] at this; omega
    rw [List.getElem?_take_of_lt hin] at hi
    obtain ⟨h3, h4⟩ := List.getElem?_eq_some_iff.1 hi
    obtain ⟨h5, h6⟩ := List.getElem?_eq_some_iff.1 hg
    have h7 := List.pairwise_iff_getElem.1 hord i c h3 h5 hin (by rw [h6]; exact hgl) r (by rw [h4]; exact hra)
    rw [h6] at h7
    have h8 : g.cm < at_ ∨ (g.cm = at_ ∧ g.cs < 0) := of_decide_eq_true hlt
    refine decide_eq_true ?_
    rcases h7 with h7 | h7 <;> omega
theorem rLt.trans {a : RV} {b : RV} {m n : Int} (h1 : rLt a b.main b.sub) (h2 : rLt b m n) : rLt a m n := by
  unfold rLt at *
  omega
theorem vOk_nil : vOk [] := ⟨(fun i j x y _ h _ => by simp at h), (fun x h => by cases h), (fun i j x y z _ h _ _ _ => by simp at h)⟩
theorem vLast_get {l : List VR} {y : VR} {j : Nat} (h : l[j]? = some y) (hj : j + 1 = l.length) : vLast l = y := vLast_at h hj
theorem vOk_drop {l : List VR} (h : vOk l) (n : Nat) : vOk (l.drop n) := by
  refine ⟨fun i j x y hij hx hy => ?_, fun x hx => h.pos x (List.mem_of_mem_drop hx), fun i j x y z hij hx hy hz hg => ?_⟩
  · rw [List.getElem?_drop] at hx hy
    exact h.lt _ _ x y (by omega) hx hy
  · rw [List.getElem?_drop] at hx hy hz
    exact h.life (n + i) (n + j) x y z (by omega) hx hy (by rw [Nat.add_assoc]; exact hz) hg
theorem vOk_snoc {l : List VR} (h : vOk l) {x : VR} (hlt : l ≠ [] → rLt (vLast l).rv x.rev_Main x.rev_Sub) (hp : 1 ≤ x.rev_Main ∧ 0 ≤ x.rev_Sub)
    (hl : l ≠ [] → (vLast l).gone = true → x.created_Main = x.rev_Main ∧ x.created_Sub = x.rev_Sub) : vOk (l ++ [x]) := by
  have hall : ∀ (i : Nat) (a : VR), l[i]? = some a → rLt a.rv x.rev_Main x.rev_Sub := by
    intro i a ha
    have hi := (List.getElem?_eq_some_iff.1 ha).1
    have hne : l ≠ [] := fun e => by rw [e] at hi; exact absurd hi (by simp)
    by_cases he : i + 1 = l.length
    · rw [← vLast_get ha he]; exact hlt hne
    · obtain ⟨b, hb⟩ : ∃ b, l[l.length - 1]? = some b := ⟨l[l.length - 1], List.getElem?_eq_getElem (by omega)⟩
      have h1 := h.lt i (l.length - 1) a b (by omega) ha hb
      have h2 := hlt hne
      rw [vLast_get hb (by omega)] at h2
      exact rLt.trans (b := b.rv) h1 h2
  have hgl : ∀ (i : Nat) (a : VR), i < l.length → (l ++ [x])[i]? = some a → l[i]? = some a := fun i a hi ha => by rw [List.getElem?_append_left hi] at ha; exact ha
  have hgx : ∀ (i : Nat) (a : VR), ¬ i < l.length → (l ++ [x])[i]? = some a → i = l.length ∧ a = x := fun i a hi ha => by
    have h3 := (List.getElem?_eq_some_iff.1 ha).1
    rw [List.length_append] at h3
    have h4 : i = l.length := by simp at h3; omega
    subst h4
    rw [List.getElem?_append_right (Nat.le_refl _), Nat.sub_self] at ha
    exact ⟨rfl, by cases ha; rfl⟩
  refine ⟨fun i j a b hij ha hb => ?_, fun a ha => ?_, fun i j a b c hij ha hb hc hg => ?_⟩
  · by_cases hj : j < l.length
    · exact h.lt i j a b hij (hgl i a (by omega) ha) (hgl j b hj hb)
    · obtain ⟨rfl, rfl⟩ := hgx j b hj hb
      exact hall i a (hgl i a hij ha)
  · rcases List.mem_append.1 ha with ha | ha
    · exact h.pos a ha
    · rcases List.mem_singleton.1 ha with rfl
      exact hp
  · by_cases hj : j + 1 < l.length
    · exact h.life i j a b c hij (hgl i a (by omega) ha) (hgl j b (by omega) hb) (hgl (j + 1) c hj hc) hg
    · obtain ⟨he, rfl⟩ := hgx (j + 1) c hj hc
      have hb2 := hgl j b (by omega) hb
      have hne : l ≠ [] := fun e => by rw [e] at he; simp at he
      obtain ⟨h1, h2⟩ := hl hne (by rw [vLast_get hb2 he]; exact hg)
      rw [h1, h2]
      exact hall i a (hgl i a (by omega) ha)
theorem vLastN_above (l : List VR) (at_ : Int) : ∀ (n k : Nat) (x : VR), vLastN l at_ n ≤ k → k < n → l[k]? = some x → at_ < x.rev_Main := by
  intro n
  induction n with
  | zero => intro k x _ h; omega
  | succ n ih =>
    intro k x h1 h2 hx
    by_cases hk : k = n
    · subst hk
      by_cases hv : x.rev_Main ≤ at_
      · rw [vLastN_yes hx hv] at h1; omega
      · omega
    · obtain ⟨y, hy⟩ : ∃ y, vLastN l at_ (n + 1) = y := ⟨_, rfl⟩
      refine ih k x ?_ (by omega) hx
      cases hn : l[n]? with
      | none => have : vLastN l at_ (n + 1) = vLastN l at_ n := by simp [vLastN, hn]
                omega
      | some v =>
        by_cases hv : v.rev_Main ≤ at_
        · rw [vLastN_yes hn hv] at h1; omega
        · rw [vLastN_no hn hv] at h1; exact h1
theorem vLastN_below (l : List VR) (at_ : Int) : ∀ n, 0 < vLastN l at_ n → ∃ x, l[vLastN l at_ n - 1]? = some x ∧ x.rev_Main ≤ at_ := by
  intro n
  induction n with
  | zero => intro h; exact absurd h (by simp [vLastN])
  | succ n ih =>
    intro h
    cases hn : l[n]? with
    | none =>
      have e : vLastN l at_ (n + 1) = vLastN l at_ n := by simp [vLastN, hn]
      rw [e] at h ⊢; exact ih h
    | some v =>
      by_cases hv : v.rev_Main ≤ at_
      · rw [vLastN_yes hn hv]; exact ⟨v, by simpa using hn, hv⟩
      · rw [vLastN_no hn hv] at h ⊢; exact ih h
theorem vSieve_thr {l : List VR} {p : Nat → VR → Bool} {n : Nat} (h : ∀ k x, l[k]? = some x → (p k x = true ↔ n ≤ k)) : ∀ m, m ≤ l.length → vSieve l p m = (l.take m).drop n := by
  intro m
  induction m with
  | zero => intro _; simp [vSieve]
  | succ m ih =>
    intro hm
    obtain ⟨x, hx⟩ : ∃ x, l[m]? = some x := ⟨l[m], List.getElem?_eq_getElem (by omega)⟩
    rw [rv_take_snoc hx]
    by_cases hp : n ≤ m
    · rw [vSieve_yes hx ((h m x hx).2 hp), ih (by omega), List.drop_append_of_le_length (by rw [List.length_take]; omega)]
    · have hf : p m x = false := by
        cases he : p m x with
        | false => rfl
        | true => exact absurd ((h m x hx).1 he) hp
      rw [vSieve_no hx hf, ih (by omega), List.drop_eq_nil_of_le (by rw [List.length_take]; omega), List.drop_eq_nil_of_le (by rw [List.length_append, List.length_take]; simp; omega)]
theorem vCompact_drop {l : List VR} (h : vOk l) (at_ : Int) : ∃ n, vCompact l at_ = l.drop n := by
  have hle := vLastN_le l at_ l.length
  have key : ∀ n, (∀ k x, l[k]? = some x → (vStay l at_ k x = true ↔ n ≤ k)) → vCompact l at_ = l.drop n := fun n hn => by
    unfold vCompact
    rw [vSieve_thr hn l.length (Nat.le_refl _), List.take_length]
  have hab : ∀ k x, l[k]? = some x → vLastN l at_ l.length ≤ k → at_ < x.rev_Main := fun k x hx hk => vLastN_above l at_ l.length k x hk (List.getElem?_eq_some_iff.1 hx).1 hx
  have hbe : ∀ k x, l[k]? = some x → k < vLastN l at_ l.length → x.rev_Main ≤ at_ := fun k x hx hk => by
    obtain ⟨y, hy, hya⟩ := vLastN_below l at_ l.length (by omega)
    by_cases he : k = vLastN l at_ l.length - 1
    · rw [← he, hx] at hy; cases hy; exact hya
    · rcases h.lt k _ x y (by omega) hx hy with h1 | h1
      · have : x.rev_Main < y.rev_Main := h1
        omega
      · have : x.rev_Main = y.rev_Main := h1.1
        omega
  by_cases hz : ∃ x, l[vLastN l at_ l.length - 1]? = some x ∧ 0 < vLastN l at_ l.length ∧ (x.gone = false ∨ x.rev_Main = at_)
  · obtain ⟨x, hx, h0, hs⟩ := hz
    refine ⟨vLastN l at_ l.length - 1, key _ fun k y hy => ?_⟩
    unfold vStay
    rw [decide_eq_true_eq]
    constructor
    · rintro (h1 | ⟨h1, _⟩)
      · by_cases hk : k < vLastN l at_ l.length
        · have := hbe k y hy hk; omega
        · omega
      · omega
    · intro hk
      by_cases he : k = vLastN l at_ l.length - 1
      · rw [he, hx] at hy; cases hy
        exact .inr ⟨by omega, hs⟩
      · exact .inl (hab k y hy (by omega))
  · refine ⟨vLastN l at_ l.length, key _ fun k y hy => ?_⟩
    unfold vStay
    rw [decide_eq_true_eq]
    constructor
    · rintro (h1 | ⟨h1, h2⟩)
      · by_cases hk : k < vLastN l at_ l.length
        · have := hbe k y hy hk; omega
        · omega
      · exact absurd ⟨y, by rw [show vLastN l at_ l.length - 1 = k by omega]; exact hy, by omega, h2⟩ hz
    · intro hk
      exact .inl (hab k y hy hk)
theorem rLt_of {l : List VR} {m n : Int} (h : vLessB (vLast l).rev_Main (vLast l).rev_Sub m n = true) : rLt (vLast l).rv m n := vLessB_gt h
theorem kDo_ok {l m : List VR} {o : KO} {a : KM} {i : Nat} (h : vOk l) (hc : kChk i l o) (hd : kDo l o = some (m, a)) : vOk m := by
  unfold kDo at hd
  split at hd
  · rename_i hk
    split at hd
    · rename_i hl
      cases hd
      have hp := hc.2.2.1 (by omega)
      refine vOk_snoc h (fun _ => ?_) ?_ fun _ hg => ?_
      · have := rLt_of hl
        unfold vPut
        split <;> exact this
      · unfold vPut
        split <;> exact hp
      · unfold vPut
        rw [if_pos hg]
        exact ⟨rfl, rfl⟩
    · cases hd
  · split at hd
    · rename_i hk
      split at hd
      · cases hd; exact h
      · rename_i hg
        split at hd
        · rename_i hl
          cases hd
          exact vOk_snoc h (fun _ => rLt_of hl) (hc.2.2.1 (by omega)) fun _ hg2 => absurd hg2 hg
        · cases hd
    · split at hd
      · cases hd; exact h
      · split at hd
        · cases hd; exact h
        · split at hd
          · cases hd
            obtain ⟨n, e⟩ := vCompact_drop h o.at_
            rw [e]; exact vOk_drop h n
          · split at hd <;> (cases hd; exact h)
theorem kRun_ok : ∀ (ops : List KO) (l m : List VR) (out res : List KM), vOk l → kRun l out ops = some (m, res) → vOk m := by
  intro ops
  induction ops with
  | nil => intro l m out res h e; rw [kRun] at e; cases e; exact h
  | cons o r ih =>
    intro l m out res h e
    rw [kRun] at e
    cases hs : kStep out.length l o with
    | none => rw [hs] at e; cases e
    | some p =>
      obtain ⟨m2, a⟩ := p
      rw [hs] at e
      refine ih m2 m _ _ ?_ e
      unfold kStep at hs
      split at hs
      · rename_i hc
        cases hd : kDo l o with
        | none => rw [hd] at hs; cases hs
        | some q =>
          obtain ⟨m3, b⟩ := q
          rw [hd] at hs
          dsimp only at hs
          split at hs
          · cases hs
          · cases hs; exact kDo_ok h hc hd
      · cases hs
theorem kLife_ok {l m : List VR} {ops : List KO} {res : List KM} (h : vOk l) (e : kLife l ops = some (m, res)) : vOk m := by
  unfold kLife at e
  split at e
  · exact kRun_ok ops l m [] res h e
  · cases e
end Go.Proofs.Ytiblemgccgbhoaa
