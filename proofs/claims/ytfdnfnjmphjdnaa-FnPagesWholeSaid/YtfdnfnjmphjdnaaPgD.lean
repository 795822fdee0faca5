/- What a writer of pages hands on. -/
import Derived.Test.YtfdnfnjmphjdnaaGwP
set_option linter.unusedVariables false
set_option linter.unusedSimpArgs false
namespace Go.Proofs.Ytfdnfnjmphjdnaa
open Go Go.RowKit Gw
def strs (ws : List (List Int)) : List Value := ws.map fun ns => .string (strN ns)
theorem strs_snoc (ws : List (List Int)) (ns : List Int) : strs ws ++ [.string (strN ns)] = strs (ws ++ [ns]) := by simp [strs]
theorem strs_len (ws : List (List Int)) : (strs ws).length = ws.length := by simp [strs]
def tot (ws : List (List Int)) : Nat := (ws.map List.length).sum
/-- Each piece has bytes; and, but for a flush, it ends where a page ends. -/
def Wh (page : Nat) (fl : Bool) : Nat → List (List Int) → Prop
  | _, [] => True
  | at_, s :: r => s ≠ [] ∧ (fl = false → (at_ + s.length) % page = 0) ∧ Wh page fl (at_ + s.length) r
theorem Wh.append {page : Nat} {fl : Bool} : ∀ {ws vs : List (List Int)} {at_ : Nat}, Wh page fl at_ ws → Wh page fl (at_ + tot ws) vs → Wh page fl at_ (ws ++ vs)
  | [], vs, at_, _, h => by simpa [tot] using h
  | s :: r, vs, at_, h, k => ⟨h.1, h.2.1, Wh.append h.2.2 (by simpa [tot, Nat.add_assoc] using k)⟩
theorem tot_append (ws vs : List (List Int)) : tot (ws ++ vs) = tot ws + tot vs := by simp [tot]
/-- What a flush does. -/
structure FOk (page po : Nat) (pd : List Int) (po' : Nat) (ws' : List (List Int)) : Prop where
  none_ : pd = [] → ws' = [] ∧ po' = po
  some_ : pd ≠ [] → ws' = [pd] ∧ po' = (po + pd.length) % page
/-- What a write does. -/
structure WOk (page wm po : Nat) (pd ns : List Int) (po' : Nat) (pd' : List Int) (ws' : List (List Int)) : Prop where
  inv : pd'.length + (page - (po' + pd'.length) % page) ≤ wm + page
  small : ns.length + pd.length ≤ wm → ws' = [] ∧ pd' = pd ++ ns ∧ po' = po
  po_le : po' ≤ po + page
  wh : ∀ at_, at_ % page = po % page → Wh page false at_ ws' ∧ (at_ + tot ws') % page = po' % page
  cnt : ws'.length ≤ 2
  sum : tot ws' + pd'.length = pd.length + ns.length
theorem mod_at {page po n at_ : Nat} (h : at_ % page = po % page) : (at_ + n) % page = (po + n) % page := by rw [Nat.add_mod, h, ← Nat.add_mod]
/-- A write that fits. -/
theorem WOk.fits {page wm po : Nat} {pd ns : List Int} (h1 : 0 < page) (h : ns.length + pd.length ≤ wm) : WOk page wm po pd ns po (pd ++ ns) [] where
  inv := by rw [List.length_append]; omega
  small := fun _ => ⟨rfl, rfl, rfl⟩
  po_le := by omega
  wh := fun at_ ha => ⟨trivial, by simpa [tot] using ha⟩
  cnt := by simp
  sum := by simp [tot]
/-- A write that stays within its page. -/
theorem WOk.part {page wm po r : Nat} {pd ns : List Int} (h1 : 0 < page) (hr : (po + pd.length) % page = r) (hi : pd.length + (page - r) ≤ wm + page) (hn : ns.length < page - r) (hs : ¬ ns.length + pd.length ≤ wm) :
    WOk page wm po pd ns po (pd ++ ns) [] where
  inv := by
    have e : (po + (pd ++ ns).length) % page = r + ns.length := by
      rw [List.length_append, ← Nat.add_assoc, Nat.add_mod, hr, Nat.mod_eq_of_lt (by omega : ns.length < page), Nat.mod_eq_of_lt (by omega)]
    rw [e, List.length_append]; omega
  small := fun h => absurd h hs
  po_le := by omega
  wh := fun at_ ha => ⟨trivial, by simpa [tot] using ha⟩
  cnt := by simp
  sum := by simp [tot]
/-- A write that fills its page: what waits goes on, then whole pages (ws2: none, or one piece), the rest waits. -/
theorem WOk.over {page wm po : Nat} {pd ns pd1 : List Int} {po1 : Nat} {ws1 ws2 : List (List Int)} {pd' : List Int} (h1 : 0 < page) (hp : page ≤ wm) (hs : ¬ ns.length + pd.length ≤ wm) (ha : (po + pd1.length) % page = 0) (hpo : po1 ≤ po + page)
    (hf : FOk page po pd1 po1 ws1) (h2 : ws2 = [] ∨ ∃ s, ws2 = [s] ∧ s ≠ [] ∧ s.length % page = 0) (hpd : pd'.length ≤ page) (hsum : tot ws2 + pd'.length + pd1.length = pd.length + ns.length) : WOk page wm po pd ns po1 pd' (ws1 ++ ws2) where
  sum := by
    rw [tot_append]
    by_cases hn : pd1 = []
    · rw [(hf.none_ hn).1]; subst hn; simp only [tot, List.map_nil, List.sum_nil, List.length_nil] at hsum ⊢; omega
    · rw [(hf.some_ hn).1]; simp only [tot, List.map_cons, List.map_nil, List.sum_cons, List.sum_nil] at hsum ⊢; omega
  inv := by omega
  small := fun h => absurd h hs
  po_le := hpo
  wh := fun at_ hat => by
    have key : ∀ b, b % page = 0 → b % page = po1 % page → Wh page false b ws2 ∧ (b + tot ws2) % page = po1 % page := by
      intro b hb hb1
      rcases h2 with rfl | ⟨s, rfl, hs1, hs2⟩
      · exact ⟨trivial, by simpa [tot] using hb1⟩
      · have e : (b + s.length) % page = 0 := by rw [Nat.add_mod, hb, hs2]; simp
        refine ⟨⟨hs1, fun _ => e, trivial⟩, ?_⟩
        simp only [tot, List.map_cons, List.map_nil, List.sum_cons, List.sum_nil, Nat.add_zero]
        rw [e, ← hb1, hb]
    by_cases hn : pd1 = []
    · obtain ⟨rfl, rfl⟩ := hf.none_ hn
      subst hn
      simp only [List.length_nil, Nat.add_zero] at ha
      simpa using key at_ (hat.trans ha) hat
    · obtain ⟨rfl, e⟩ := hf.some_ hn
      have h0 : (at_ + pd1.length) % page = 0 := (mod_at hat).trans ha
      have hk := key (at_ + pd1.length) h0 (by rw [e, Nat.mod_mod]; exact mod_at hat)
      refine ⟨⟨hn, fun _ => h0, hk.1⟩, ?_⟩
      have : tot ([pd1] ++ ws2) = pd1.length + tot ws2 := by simp [tot]
      rw [this, ← Nat.add_assoc]
      exact hk.2
  cnt := by
    have : ws1.length ≤ 1 := by
      by_cases hn : pd1 = []
      · rw [(hf.none_ hn).1]; simp
      · rw [(hf.some_ hn).1]; simp
    have : ws2.length ≤ 1 := by
      rcases h2 with rfl | ⟨s, rfl, _⟩ <;> simp
    rw [List.length_append]; omega
theorem buf_put (pd ns : List Int) (junk : List Value) : List.take pd.length (bytesV pd ++ junk) ++ bytesV ns ++ List.drop (pd.length + (bytesV ns).length) (bytesV pd ++ junk) = bytesV (pd ++ ns) ++ junk.drop ns.length := by
  have e : (bytesV pd).length = pd.length := bytesV_len pd
  rw [← e, List.take_left, List.drop_append, List.drop_eq_nil_of_le (by omega), bytesV_len ns, show (bytesV pd).length + ns.length - (bytesV pd).length = ns.length by omega]
  simp [bytesV]
theorem mod_fill {x page r : Nat} (h1 : 0 < page) (hr : x % page = r) : (x + (page - r)) % page = 0 := by
  have := Nat.mod_lt x h1
  rw [Nat.add_mod, hr]
  by_cases h0 : r = 0
  · subst h0; simp
  · rw [Nat.mod_eq_of_lt (by omega : page - r < page), show r + (page - r) = page by omega, Nat.mod_self]
theorem FOk.len {page po : Nat} {pd : List Int} {po' : Nat} {ws' : List (List Int)} (h : FOk page po pd po' ws') : ws'.length ≤ 1 := by
  by_cases hn : pd = []
  · rw [(h.none_ hn).1]; simp
  · rw [(h.some_ hn).1]; simp
theorem FOk.po {page po : Nat} {pd : List Int} {po' : Nat} {ws' : List (List Int)} (h1 : 0 < page) (h : FOk page po pd po' ws') : po' ≤ po + page := by
  by_cases hn : pd = []
  · rw [(h.none_ hn).2]; omega
  · rw [(h.some_ hn).2]
    have := Nat.mod_lt (po + pd.length) h1
    omega
end Go.Proofs.Ytfdnfnjmphjdnaa
