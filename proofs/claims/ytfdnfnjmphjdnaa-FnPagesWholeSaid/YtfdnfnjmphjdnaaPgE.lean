/- What is done with a writer of pages, one after the other. -/
import Derived.Test.YtfdnfnjmphjdnaaPgC0
import Derived.Test.YtfdnfnjmphjdnaaGwK
set_option linter.unusedVariables false
set_option linter.unusedSimpArgs false
namespace Go.Proofs.Ytfdnfnjmphjdnaa
open Go Go.RowKit Gw
structure OpS where
  text : ByteArray
  flush : Bool
def OpS.cells (o : OpS) : List Value := [.string o.text, .bool o.flush]
theorem OpS.len (o : OpS) : o.cells.length = 2 := rfl
structure AnsS where
  n : Int
  wA : Option Addr
  wN : Nat
  wC : Nat
def AnsS.cells (a : AnsS) : List Value := [.int .i64 a.n, .slice a.wA a.wN a.wC]
theorem AnsS.len (a : AnsS) : a.cells.length = 2 := rfl
/-- One step. -/
def PStep (page wm po : Nat) (pd : List Int) (op : OpS) (n : Int) (po' : Nat) (pd' : List Int) (ws : List (List Int)) : Prop :=
  (op.flush = true ∧ n = 0 ∧ FOk page po pd po' ws ∧ pd' = []) ∨
  (op.flush = false ∧ WOk page wm po pd (ints op.text) po' pd' ws ∧ ((ints op.text).length + pd.length ≤ wm → n = op.text.size))
inductive Runs (page wm po0 : Nat) : List OpS → List AnsS → List (List (List Int)) → Nat → List Int → Prop
  | nil : Runs page wm po0 [] [] [] po0 []
  | snoc {ops : List OpS} {an : List AnsS} {wss : List (List (List Int))} {po po' : Nat} {pd pd' : List Int} {op : OpS} {a : AnsS} {ws : List (List Int)} :
      Runs page wm po0 ops an wss po pd → PStep page wm po pd op a.n po' pd' ws → Runs page wm po0 (ops ++ [op]) (an ++ [a]) (wss ++ [ws]) po' pd'
theorem Runs.next {page wm po0 po po' k : Nat} {l : List OpS} {an : List AnsS} {wss : List (List (List Int))} {pd pd' : List Int} {op : OpS} {ws : List (List Int)} (h : Runs page wm po0 (l.take k) an wss po pd) (hx : l[k]? = some op) (a : AnsS)
    (hs : PStep page wm po pd op a.n po' pd' ws) : Runs page wm po0 (l.take (k + 1)) (an ++ [a]) (wss ++ [ws]) po' pd' := by
  rw [List.take_add_one, hx]
  exact h.snoc hs
def AnsAt (R : HP) (an : List AnsS) (wss : List (List (List Int))) : Prop :=
  an.length = wss.length ∧ ∀ (i : Nat) (a : AnsS) (ws : List (List Int)), an[i]? = some a → wss[i]? = some ws → RS R 1 (.slice a.wA a.wN a.wC) ws.length (strs ws)
theorem AnsAt.nil (R : HP) : AnsAt R [] [] := ⟨rfl, fun i a ws h => by simp at h⟩
theorem AnsAt.mono {R R' : HP} {an : List AnsS} {wss : List (List (List Int))} (h : AnsAt R an wss) (s : Sub R R') : AnsAt R' an wss := ⟨h.1, fun i a ws h1 h2 => (h.2 i a ws h1 h2).mono s⟩
theorem AnsAt.snoc {R R' : HP} {an : List AnsS} {wss : List (List (List Int))} {a : AnsS} {ws : List (List Int)} (h : AnsAt R an wss) (s : Sub R R') (ha : RS R' 1 (.slice a.wA a.wN a.wC) ws.length (strs ws)) : AnsAt R' (an ++ [a]) (wss ++ [ws]) := by
  refine ⟨by simp [h.1], fun i b vs h1 h2 => ?_⟩
  by_cases hi : i < an.length
  · rw [List.getElem?_append_left hi] at h1
    rw [List.getElem?_append_left (by rw [← h.1]; exact hi)] at h2
    exact (h.2 i b vs h1 h2).mono s
  · have e : i = an.length := by
      have := (List.getElem?_eq_some_iff.1 h1).1
      simp at this; omega
    subst e
    rw [List.getElem?_append_right (Nat.le_refl _), Nat.sub_self] at h1
    rw [h.1, List.getElem?_append_right (Nat.le_refl _), Nat.sub_self] at h2
    cases h1; cases h2
    exact ha
/-- Where the writer below stands. -/
def totT (wss : List (List (List Int))) : Nat := (wss.map tot).sum
theorem Runs.whole {page wm po0 : Nat} (hp : 0 < page) {ops : List OpS} {an : List AnsS} {wss : List (List (List Int))} {po : Nat} {pd : List Int} (h : Runs page wm po0 ops an wss po pd) :
    wss.length = ops.length ∧ an.length = ops.length ∧ (po0 + totT wss) % page = po % page ∧ ∀ (i : Nat) (op : OpS) (ws : List (List Int)), ops[i]? = some op → wss[i]? = some ws → Wh page op.flush (po0 + totT (wss.take i)) ws := by
  induction h with
  | nil => exact ⟨rfl, rfl, by simp [totT], fun i op ws h => by simp at h⟩
  | @snoc ops an wss po po' pd pd' op a ws h hs ih =>
    obtain ⟨i1, i2, i3, i4⟩ := ih
    have key : Wh page op.flush (po0 + totT wss) ws ∧ (po0 + totT wss + tot ws) % page = po' % page := by
      rcases hs with ⟨hf, _, hfo, _⟩ | ⟨hf, hwo, _⟩
      · rw [hf]
        by_cases hn : pd = []
        · obtain ⟨rfl, rfl⟩ := hfo.none_ hn
          exact ⟨trivial, by simpa [tot] using i3⟩
        · obtain ⟨rfl, rfl⟩ := hfo.some_ hn
          refine ⟨⟨hn, (fun h => by cases h), trivial⟩, ?_⟩
          simp only [tot, List.map_cons, List.map_nil, List.sum_cons, List.sum_nil, Nat.add_zero]
          rw [Nat.mod_mod]; exact mod_at i3
      · rw [hf]; exact hwo.wh _ i3
    refine ⟨by simp [i1], by simp [i2], ?_, fun i op' ws' h1 h2 => ?_⟩
    · have : totT (wss ++ [ws]) = totT wss + tot ws := by simp [totT]
      rw [this, ← Nat.add_assoc]; exact key.2
    · by_cases hi : i < ops.length
      · rw [List.getElem?_append_left hi] at h1
        rw [List.getElem?_append_left (by rw [i1]; exact hi)] at h2
        rw [List.take_append_of_le_length (by omega)]
        exact i4 i op' ws' h1 h2
      · have e : i = ops.length := by
          have := (List.getElem?_eq_some_iff.1 h1).1
          simp at this; omega
        subst e
        rw [List.getElem?_append_right (Nat.le_refl _), Nat.sub_self] at h1
        rw [← i1, List.getElem?_append_right (Nat.le_refl _), Nat.sub_self] at h2
        cases h1; cases h2
        rw [← i1, List.take_left' rfl]
        exact key.1
theorem Runs.sum {page wm po0 : Nat} {ops : List OpS} {an : List AnsS} {wss : List (List (List Int))} {po : Nat} {pd : List Int} (h : Runs page wm po0 ops an wss po pd) : (∀ x ∈ ops, x.text.size ≤ 1048576) → totT wss + pd.length ≤ ops.length * 1048576 := by
  induction h with
  | nil => intro _; simp [totT]
  | @snoc ops an wss po po' pd pd' op a ws h hs ih =>
    intro hx
    have ih := ih (fun x hm => hx x (List.mem_append_left _ hm))
    have hop := hx op (by simp)
    have e : totT (wss ++ [ws]) = totT wss + tot ws := by simp [totT]
    have el : (ops ++ [op]).length = ops.length + 1 := by simp
    rw [e, el]
    rcases hs with ⟨_, _, hf, rfl⟩ | ⟨_, hw, _⟩
    · have : tot ws = pd.length := by
        by_cases hn : pd = []
        · rw [(hf.none_ hn).1, hn]; rfl
        · rw [(hf.some_ hn).1]; simp [tot]
      simp only [List.length_nil]; omega
    · have := hw.sum
      rw [ints_length] at this
      omega
theorem totT_le {wss : List (List (List Int))} (k : Nat) : totT (wss.take k) ≤ totT wss := by
  have : totT wss = totT (wss.take k) + totT (wss.drop k) := by
    have e : totT (wss.take k ++ wss.drop k) = totT (wss.take k) + totT (wss.drop k) := by simp only [totT, List.map_append, List.sum_append]
    rw [← e, List.take_append_drop]
  omega
theorem tot_le {ws : List (List Int)} (k : Nat) : tot (ws.take k) ≤ tot ws := by
  have : tot ws = tot (ws.take k) + tot (ws.drop k) := by
    conv => lhs; rw [← List.take_append_drop k ws]
    rw [tot_append]
  omega
end Go.Proofs.Ytfdnfnjmphjdnaa
