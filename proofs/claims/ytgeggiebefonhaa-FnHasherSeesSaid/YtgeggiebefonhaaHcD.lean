/- The hash of rows. -/
import Derived.Test.YtgeggiebefonhaaHcA0
import Derived.Test.YtgeggiebefonhaaGwY
set_option linter.unusedVariables false
set_option linter.unusedSimpArgs false
namespace Go.Proofs.Ytgeggiebefonhaa
open Go Go.RowKit Gw
def RV.pair (r : RV) : Int × Int := (r.main, r.sub)
theorem MK.next {m : List ((Int × Int) × Value)} {ks : List (Int × Int)} (h : MK m ks) (a : Int × Int) : MK (mset m a (.agg #[])) (ks ++ [a]) where
  yes := fun c hc => by
    rw [mget_msetG]
    split
    · rfl
    · rename_i hne
      rcases List.mem_append.1 hc with hc | hc
      · exact h.yes c hc
      · exact absurd (List.mem_singleton.1 hc) hne
  no := fun c hc => by
    rw [mget_msetG, if_neg (fun e => hc (by rw [e]; simp))]
    exact h.no c fun hh => hc (List.mem_append_left _ hh)
  nil := by
    constructor
    · intro e
      have := congrArg List.length e
      rw [mset_lengthG] at this
      split at this
      · simp at this
      · rename_i hn
        have hm : m = [] := List.eq_nil_of_length_eq_zero (by simpa using this)
        subst hm
        exact absurd rfl hn
    · intro e; simp at e
  nd := mset_nodupG h.nd _ _
def hrows (compact rev : Int) (ks : List (Int × Int)) (n : Int) (l : List RW) : Int := l.foldl (hstep compact rev ks) n
theorem hrows_take {compact rev n : Int} {ks : List (Int × Int)} {l : List RW} {k : Nat} {x : RW} (h : l[k]? = some x) : hrows compact rev ks n (l.take (k + 1)) = hstep compact rev ks (hrows compact rev ks n (l.take k)) x := by
  rw [take_snoc h]; simp [hrows]
def hzero : Int := crc 0 [107, 101, 121]
def hash (compact rev : Int) (keep : List RV) (rows : List RW) : Int := hrows compact rev (keep.map RV.pair) hzero rows
theorem kb_len (x : RW) : x.kb.length ≤ 100 := by unfold RW.kb; rw [rkey_len]; split <;> omega
theorem vb_len {x : RW} (h : x.kV_Key.size ≤ 100 ∧ x.kV_Value.size ≤ 100) : x.vb.length ≤ 1000 := by
  have h1 := pbyt_len 1 x.ks (by omega)
  have h2 := pint_len 2 x.kV_Create (by omega)
  have h3 := pint_len 3 x.kV_Mod (by omega)
  have h4 := pint_len 4 x.kV_Version (by omega)
  have h5 := pbyt_len 5 x.vs (by omega)
  have h6 := pint_len 6 x.kV_Lease (by omega)
  have e1 : x.ks.length = x.kV_Key.size := ints_length _
  have e2 : x.vs.length = x.kV_Value.size := ints_length _
  unfold RW.vb kvb
  simp only [List.length_append]; omega
theorem Bts.at_ {R : HP} {ks : List Value} {l : List RW} {f : RW → List Int} {k : Nat} {x : RW} (h : Bts R ks (l.map f)) (hx : l[k]? = some x) : ∃ kv, ks[k]? = some kv ∧ RS R 1 kv (f x).length (bytesV (f x)) :=
  h.2 k (f x) (by rw [List.getElem?_map, hx]; rfl)
end Go.Proofs.Ytgeggiebefonhaa
