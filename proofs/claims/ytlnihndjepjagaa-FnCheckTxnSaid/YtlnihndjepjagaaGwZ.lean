/- A literal's row, said as bytes once more: the run-time's mark behind its last cell. -/
import Derived.Test.YtlnihndjepjagaaGwY
set_option linter.unusedVariables false
set_option linter.unusedSimpArgs false
namespace Go.Proofs.Ytlnihndjepjagaa.Gw
open Go Go.RowKit
section
variable {P : Program} {n : Nat} {e : Env} {w : World} {l : List SP} {K : Value → World → Prop} {d : Option Nat} {ty : TypeId} {pos : String} {af : Array Edge} {g : Option (Nat × Bool)}
theorem Holds.mark {w : World} {l : List SP} (h : Holds w l) (i : Nat) {b T : Nat} {cs : List Value} (hi : l[i]? = some (clf b T cs)) :
    w.shape? b = some (T, cs.length) ∧ Holds (w.freeze ⟨b, cs.length, none⟩ 1) (l.set i (cl b T cs)) := by
  have he : w.heap[b]? = some (.cells cs.toArray T (0, 0)) := by
    obtain ⟨h1, k, s, t, d, e, r⟩ := Sat.bring i hi h
    exact s _ _ e
  refine ⟨by simp [World.shape?, he], ?_⟩
  have hw : hp (w.freeze ⟨b, cs.length, none⟩ 1) = upb (hp w) b (.cells cs.toArray T (cs.length, cs.length + 1)) := by
    refine hp_setBlock _ _ _ _ ?_ (fun c hc => ?_)
    · unfold World.freeze
      rw [if_neg (by decide)]
      simp only [Array.getElem?_modify, if_true, he, Option.map_some]
      rfl
    · unfold World.freeze
      rw [if_neg (by decide)]
      simp only [Array.getElem?_modify, if_neg (Ne.symm hc)]
  unfold Holds
  rw [hw]
  refine Sat.upb_at i hi h (fun h e' => ⟨_, e'⟩) fun h _ => ⟨(cs.length, cs.length + 1), by simp [upb], ?_⟩
  intro j hj ⟨h1, _⟩
  exact absurd h1 (Nat.not_le.2 hj)
theorem T_convSame {s el m c b off T : Nat} {x : Operand} {cs : List Value} (hx : ev n e x = .slice (some ⟨b, off, none⟩) m c) (hs : P.underlying s = some (.slice el)) (he : P.underlying el = some (.int .u8)) (h : Holds w l) (i : Nat) (hi : l[i]? = some (clf b T cs))
    (k : ∀ w', Same w w' → Holds w' (l.set i (cl b T cs)) → K (.slice (some ⟨b, off, none⟩) m c) w') :
    Stp P n e ⟨d, .convert s s x, ty, pos, af, g⟩ w K := by
  obtain ⟨h1, h2⟩ := Holds.mark h i hi
  refine .inl ⟨_, _, ?_, k (w.freeze ⟨b, cs.length, none⟩ 1) ⟨rfl, rfl, rfl⟩ h2⟩
  simp only [execOp]
  rw [hx]
  refine run_v _ ?_
  simp [convert, run_underlying hs, run_underlying he, markStringish, h1]
theorem Holds.resl (h : Holds w l) (i : Nat) {T sz m m' : Nat} {v : Value} {xs xs' : List Value} (hi : l[i]? = some (sl T sz v m xs)) (hx : xs = xs') (hm : m = m') : Holds w (l.set i (sl T sz v m' xs')) := by
  subst hx; subst hm
  exact h.map_at i hi fun _ a => a
theorem Holds.recl (h : Holds w l) (i : Nat) {b T : Nat} {cs cs' : List Value} (hi : l[i]? = some (cl b T cs)) (hc : cs = cs') : Holds w (l.set i (cl b T cs')) := by
  subst hc
  exact h.map_at i hi fun _ a => a
/-- Pieces, one after the other, each counted among those that are left; of these the first n are let go. -/
def pk (n : Nat) : List SP → List Nat → List SP
  | l, [] => l.drop n
  | l, i :: r => match l[i]? with
    | some A => A :: pk n (l.eraseIdx i) r
    | none => []
theorem Sat.drop_ : ∀ (n : Nat) {l : List SP} {g : HP}, Sat l g → Sat (l.drop n) g
  | 0, _, _, h => h
  | _ + 1, [], _, h => h
  | n + 1, _ :: _, _, h => Sat.drop_ n (Sat.tail h)
theorem Sat.pk_ (n : Nat) : ∀ (idx : List Nat) {l : List SP} {g : HP}, Sat l g → Sat (pk n l idx) g
  | [], _, _, h => Sat.drop_ n h
  | i :: r, l, g, h => by
    unfold pk
    split
    · rename_i A e
      exact Sat.cons_map (fun g h => Sat.pk_ n r h) (Sat.bring i e h)
    · trivial
theorem Holds.pkF (h : Holds w l) (idx : List Nat) (n : Nat) : Holds w (pk n l idx) := Sat.pk_ n idx h
theorem Holds.drew_ (h : Holds w l) : Holds w.drew l := h
theorem A_cut {P : Program} {ops : Array Oper} {Q : Exit → Act → World → Prop} {S : World → Prop} {fuel : Nat} {ls : Array Bool} {a0 : Act} {w0 : World} (ls' : Array Bool) (fuel' : Nat) (J : Act → World → Prop) (h1 : ∀ a w, J a w → wpAnyH P .any ops Q S fuel' ls' a w)
    (h2 : (∀ a w, J a w → wpAnyH P .any ops Q S fuel' ls' a w) → wpAnyH P .any ops Q S fuel ls a0 w0) : wpAnyH P .any ops Q S fuel ls a0 w0 := h2 h1
theorem run_results4 {P : Program} {n : Nat} {e : Env} {w : World} {ds : List Deferred} {fn : Func} {r s t q : ResultVar} {v u x y : Value} (hr : fn.results = #[r, s, t, q]) (h : resRun P n e w r v) (h' : resRun P n e w s u) (h'' : resRun P n e w t x) (h3 : resRun P n e w q y) :
    (results fn (mkA n e ds).tmps).run P w = .ok (.tuple #[v, u, x, y]) w := by
  cases r <;> cases s <;> cases t <;> cases q <;> simp only [resRun] at h h' h'' h3 <;> (try obtain ⟨p, h1, h2⟩ := h) <;> (try obtain ⟨p', h1', h2'⟩ := h') <;> (try obtain ⟨p'', h1'', h2''⟩ := h'') <;> (try obtain ⟨p3, h13, h23⟩ := h3) <;>
    simp_all [results, ev_getO, asAddr]
end
end Go.Proofs.Ytlnihndjepjagaa.Gw
