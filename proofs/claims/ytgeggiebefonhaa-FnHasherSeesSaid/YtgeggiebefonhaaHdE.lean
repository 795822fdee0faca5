/- A row with another byte makes another hash. -/
import Derived.Test.YtgeggiebefonhaaHdD
set_option linter.unusedVariables false
set_option linter.unusedSimpArgs false
namespace Go.Proofs.Ytgeggiebefonhaa
open Go Go.RowKit Gw
theorem hstep_u {compact rev n : Int} {ks : List (Int × Int)} {x : RW} (h : U32 n) : U32 (hstep compact rev ks n x) := by
  unfold hstep; split
  · exact crc_u (crc_u h)
  · exact h
theorem hstep_inj {compact rev n m : Int} {ks : List (Int × Int)} {x : RW} (h : U32 n) (k : U32 m) (e : hstep compact rev ks n x = hstep compact rev ks m x) : n = m := by
  unfold hstep at e
  split at e
  · exact crc_inj h k (crc_inj (crc_u h) (crc_u k) e)
  · exact e
theorem hrows_u {compact rev : Int} {ks : List (Int × Int)} {l : List RW} : ∀ {n : Int}, U32 n → U32 (hrows compact rev ks n l) := by
  induction l with
  | nil => intro n h; exact h
  | cons x l ih => intro n h; exact ih (hstep_u h)
theorem hrows_inj {compact rev : Int} {ks : List (Int × Int)} {l : List RW} : ∀ {n m : Int}, U32 n → U32 m → hrows compact rev ks n l = hrows compact rev ks m l → n = m := by
  induction l with
  | nil => intro n m _ _ e; exact e
  | cons x l ih => intro n m h k e; exact hstep_inj h k (ih (hstep_u h) (hstep_u k) e)
/-- Texts that differ in one byte. -/
def Off1 (a b : List Int) : Prop := ∃ p q x y, a = p ++ x :: q ∧ b = p ++ y :: q ∧ (0 ≤ x ∧ x < 256) ∧ (0 ≤ y ∧ y < 256) ∧ x ≠ y
theorem Off1.ctx {a b : List Int} (h : Off1 a b) (l r : List Int) : Off1 (l ++ a ++ r) (l ++ b ++ r) := by
  obtain ⟨p, q, x, y, rfl, rfl, h1, h2, h3⟩ := h
  exact ⟨l ++ p, q ++ r, x, y, by simp, by simp, h1, h2, h3⟩
theorem Off1.len {a b : List Int} (h : Off1 a b) : a.length = b.length := by
  obtain ⟨p, q, x, y, rfl, rfl, _⟩ := h; simp
theorem Off1.ne {a b : List Int} (h : Off1 a b) : a ≠ [] ∧ b ≠ [] := by
  obtain ⟨p, q, x, y, rfl, rfl, _⟩ := h; simp
theorem Off1.crc {n : Int} {a b : List Int} (hn : U32 n) (h : Off1 a b) : crc n a ≠ crc n b := by
  obtain ⟨p, q, x, y, rfl, rfl, h1, h2, h3⟩ := h
  exact crc_ne hn h1 h2 h3
theorem Off1.pbyt {a b : List Int} (h : Off1 a b) (f : Nat) : Off1 (pbyt f a) (pbyt f b) := by
  unfold Ytgeggiebefonhaa.pbyt
  rw [if_neg h.ne.1, if_neg h.ne.2, ← h.len]
  have := h.ctx (vint (f * 8 + 2) ++ vi a.length) []
  simpa using this
theorem vb_val {x y : RW} (h : Off1 x.vs y.vs) (hk : y.ks = x.ks) (h1 : y.kV_Create = x.kV_Create) (h2 : y.kV_Mod = x.kV_Mod) (h3 : y.kV_Version = x.kV_Version) (h4 : y.kV_Lease = x.kV_Lease) : Off1 x.vb y.vb := by
  unfold RW.vb kvb
  rw [hk, h1, h2, h3, h4]
  exact (h.pbyt 5).ctx _ _
theorem vb_key {x y : RW} (h : Off1 x.ks y.ks) (hk : y.vs = x.vs) (h1 : y.kV_Create = x.kV_Create) (h2 : y.kV_Mod = x.kV_Mod) (h3 : y.kV_Version = x.kV_Version) (h4 : y.kV_Lease = x.kV_Lease) : Off1 x.vb y.vb := by
  unfold RW.vb kvb
  rw [hk, h1, h2, h3, h4]
  have := (h.pbyt 1).ctx [] (pint 2 x.kV_Create ++ pint 3 x.kV_Mod ++ pint 4 x.kV_Version ++ pbyt 5 x.vs ++ pint 6 x.kV_Lease)
  simpa [List.append_assoc] using this
theorem hzero_u : U32 hzero := crc_u ⟨by omega, by omega⟩
theorem hash_ne {compact rev : Int} {K : List RV} {L : List RW} {i : Nat} {x y : RW} (hx : L[i]? = some x) (hc : hcnt compact rev (K.map RV.pair) x) (h1 : y.rev_Main = x.rev_Main) (h2 : y.rev_Sub = x.rev_Sub) (h3 : y.gone = x.gone) (ho : Off1 x.vb y.vb) :
    hash compact rev K L ≠ hash compact rev K (L.set i y) := by
  obtain ⟨hl, he⟩ := List.getElem?_eq_some_iff.1 hx
  have e1 : L = L.take i ++ x :: L.drop (i + 1) := by rw [← he, List.getElem_cons_drop, List.take_append_drop]
  have e2 : L.set i y = L.take i ++ y :: L.drop (i + 1) := by rw [List.set_eq_take_append_cons_drop, if_pos hl]
  have hy : hcnt compact rev (K.map RV.pair) y := by unfold hcnt; rw [h1, h2, h3]; exact hc
  have hk : y.kb = x.kb := by unfold RW.kb; rw [h1, h2, h3]
  have key : ∀ z : RW, hash compact rev K (L.take i ++ z :: L.drop (i + 1)) = hrows compact rev (K.map RV.pair) (hstep compact rev (K.map RV.pair) (hrows compact rev (K.map RV.pair) hzero (L.take i)) z) (L.drop (i + 1)) := by
    intro z; simp [hash, hrows]
  intro e
  rw [e2] at e
  rw [show hash compact rev K L = hash compact rev K (L.take i ++ x :: L.drop (i + 1)) from congrArg _ e1, key x, key y] at e
  have hu : U32 (hrows compact rev (K.map RV.pair) hzero (L.take i)) := hrows_u hzero_u
  have e3 := hrows_inj (hstep_u hu) (hstep_u hu) e
  unfold hstep at e3
  rw [if_pos hc, if_pos hy, hk] at e3
  exact ho.crc (crc_u hu) e3
end Go.Proofs.Ytgeggiebefonhaa
