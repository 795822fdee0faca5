/- What a key's changes come to: lists. -/
import Derived.Test.YtiblemgccgbhoaaTy
import Derived.Test.YtiblemgccgbhoaaGwZ
set_option linter.unusedVariables false
set_option linter.unusedSimpArgs false
namespace Go.Proofs.Ytiblemgccgbhoaa
open Go Go.RowKit Gw

structure RV where
  main : Int
  sub : Int
def RV.cells (x : RV) : List Value := [(Value.int .i64 x.main), (Value.int .i64 x.sub)]
theorem RV.len (x : RV) : x.cells.length = 2 := rfl

structure VR where
  rev_Main : Int
  rev_Sub : Int
  created_Main : Int
  created_Sub : Int
  ver : Int
  gone : Bool
def VR.cells (x : VR) : List Value := [(Value.int .i64 x.rev_Main), (Value.int .i64 x.rev_Sub), (Value.int .i64 x.created_Main), (Value.int .i64 x.created_Sub), (Value.int .i64 x.ver), (Value.bool x.gone)]
theorem VR.len (x : VR) : x.cells.length = 6 := rfl

structure KO where
  kind : Int
  rev_Main : Int
  rev_Sub : Int
  created_Main : Int
  created_Sub : Int
  ver : Int
  at_ : Int
def KO.cells (x : KO) : List Value := [(Value.int .i64 x.kind), (Value.int .i64 x.rev_Main), (Value.int .i64 x.rev_Sub), (Value.int .i64 x.created_Main), (Value.int .i64 x.created_Sub), (Value.int .i64 x.ver), (Value.int .i64 x.at_)]
theorem KO.len (x : KO) : x.cells.length = 7 := rfl

structure GN where
  ver : Int
  created_Main : Int
  created_Sub : Int
  revs : Value
  l : List RV
def GN.cells (x : GN) : List Value := [(Value.int .i64 x.ver), (Value.int .i64 x.created_Main), (Value.int .i64 x.created_Sub), x.revs]
theorem GN.len (x : GN) : x.cells.length = 4 := rfl

structure KA where
  oK : Bool
  mod_Main : Int
  mod_Sub : Int
  created_Main : Int
  created_Sub : Int
  ver : Int
  revs : Value
  dump_Modified_Main : Int
  dump_Modified_Sub : Int
  dump_Gens : Value
  rl : List RV
  gl : List GN
def KA.cells (x : KA) : List Value := [(Value.bool x.oK), (Value.int .i64 x.mod_Main), (Value.int .i64 x.mod_Sub), (Value.int .i64 x.created_Main), (Value.int .i64 x.created_Sub), (Value.int .i64 x.ver), x.revs, (Value.int .i64 x.dump_Modified_Main), (Value.int .i64 x.dump_Modified_Sub), x.dump_Gens]
theorem KA.len (x : KA) : x.cells.length = 10 := rfl

def vNone : VR := ⟨0, 0, 0, 0, 0, true⟩
def vLast (l : List VR) : VR := l.getLast?.getD vNone
theorem vLast_at {l : List VR} {x : VR} {k : Nat} (h : l[k]? = some x) (hk : k + 1 = l.length) : vLast l = x := by
  unfold vLast
  rw [List.getLast?_eq_getElem?, show l.length - 1 = k by omega, h]; rfl
theorem vLast_nil : vLast [] = vNone := rfl
theorem vLast_nil' {l : List VR} (h : (l.length : Int) = 0) : vLast l = vNone := by
  have e : l = [] := List.eq_nil_of_length_eq_zero (by omega)
  rw [e]; rfl
theorem vLast_pos {l : List VR} (h : (!(vLast l).gone) = true) : 0 < l.length := by
  cases l with
  | nil => simp [vLast, vNone] at h
  | cons a l => simp
theorem vLast_snoc (l : List VR) (x : VR) : vLast (l ++ [x]) = x := by simp [vLast]
def vPut (l : List VR) (m s : Int) : VR := if (vLast l).gone then ⟨m, s, m, s, 1, false⟩ else ⟨m, s, (vLast l).created_Main, (vLast l).created_Sub, (vLast l).ver + 1, false⟩
def vEnd (l : List VR) (m s : Int) : VR := ⟨m, s, (vLast l).created_Main, (vLast l).created_Sub, (vLast l).ver + 1, true⟩
def vLessB (a b c d : Int) : Bool := decide (a < c ∨ (a = c ∧ b < d))
/-- One more than the place of the last one among the first n whose number is at most a number. -/
def vLastN (l : List VR) (at_ : Int) : Nat → Nat
  | 0 => 0
  | n + 1 => match l[n]? with
    | some v => if v.rev_Main ≤ at_ then n + 1 else vLastN l at_ n
    | none => vLastN l at_ n
theorem vLastN_yes {l : List VR} {at_ : Int} {n : Nat} {v : VR} (h : l[n]? = some v) (hv : v.rev_Main ≤ at_) : vLastN l at_ (n + 1) = n + 1 := by
  simp [vLastN, h, hv]
theorem vLastN_no {l : List VR} {at_ : Int} {n : Nat} {v : VR} (h : l[n]? = some v) (hv : ¬ v.rev_Main ≤ at_) : vLastN l at_ (n + 1) = vLastN l at_ n := by
  simp [vLastN, h, hv]
theorem vLastN_yes' {l : List VR} {at_ : Int} {n : Nat} {v : VR} (h : l[((n : Int) - 1).toNat]? = some v) (hn : 0 < n) (hv : v.rev_Main ≤ at_) : vLastN l at_ n = n := by
  obtain ⟨m, rfl⟩ : ∃ m, n = m + 1 := ⟨n - 1, by omega⟩
  rw [show ((m + 1 : Nat) : Int) - 1 = (m : Int) by omega, Int.toNat_natCast] at h
  exact vLastN_yes h hv
theorem vLastN_no' {l : List VR} {at_ : Int} {n : Nat} {v : VR} (h : l[((n : Int) - 1).toNat]? = some v) (hn : 0 < n) (hv : ¬ v.rev_Main ≤ at_) : vLastN l at_ n = vLastN l at_ (n - 1) := by
  obtain ⟨m, rfl⟩ : ∃ m, n = m + 1 := ⟨n - 1, by omega⟩
  rw [show ((m + 1 : Nat) : Int) - 1 = (m : Int) by omega, Int.toNat_natCast] at h
  exact vLastN_no h hv
theorem vLastN_le (l : List VR) (at_ : Int) (n : Nat) : vLastN l at_ n ≤ n := by
  induction n with
  | zero => exact Nat.le_refl 0
  | succ n ih =>
    unfold vLastN
    split
    · split <;> omega
    · omega
def vZero : VR := ⟨0, 0, 0, 0, 0, false⟩
def vHoldX (l : List VR) (at_ : Int) : Option VR := if vLastN l at_ l.length = 0 then none else (l[vLastN l at_ l.length - 1]?).bind fun v => if v.gone then none else some v
def vHold (l : List VR) (at_ : Int) : VR := (vHoldX l at_).getD vZero
def vHoldB (l : List VR) (at_ : Int) : Bool := (vHoldX l at_).isSome
theorem vHold_zero {l : List VR} {at_ : Int} (h : (vLastN l at_ l.length : Int) - 1 < 0) : vHoldX l at_ = none := by
  unfold vHoldX
  rw [if_pos (by omega)]
theorem vHold_at {l : List VR} {at_ : Int} {v : VR} (h : l[((vLastN l at_ l.length : Int) - 1).toNat]? = some v) (h0 : ¬ (vLastN l at_ l.length : Int) - 1 < 0) : vHoldX l at_ = if v.gone then none else some v := by
  unfold vHoldX
  rw [if_neg (by omega), show vLastN l at_ l.length - 1 = ((vLastN l at_ l.length : Int) - 1).toNat by omega, h]; rfl
def vStay (l : List VR) (at_ : Int) (i : Nat) (v : VR) : Bool := decide (at_ < v.rev_Main ∨ (i + 1 = vLastN l at_ l.length ∧ (v.gone = false ∨ v.rev_Main = at_)))
def VR.rv (v : VR) : RV := ⟨v.rev_Main, v.rev_Sub⟩
def vSieve (l : List VR) (p : Nat → VR → Bool) : Nat → List VR
  | 0 => []
  | k + 1 => vSieve l p k ++ (match l[k]? with | some v => if p k v then [v] else [] | none => [])
theorem vSieve_yes {l : List VR} {p : Nat → VR → Bool} {k : Nat} {v : VR} (h : l[k]? = some v) (hp : p k v = true) : vSieve l p (k + 1) = vSieve l p k ++ [v] := by
  simp [vSieve, h, hp]
theorem vSieve_no {l : List VR} {p : Nat → VR → Bool} {k : Nat} {v : VR} (h : l[k]? = some v) (hp : p k v = false) : vSieve l p (k + 1) = vSieve l p k := by
  simp [vSieve, h, hp]
theorem vSieve_len (l : List VR) (p : Nat → VR → Bool) (k : Nat) : (vSieve l p k).length ≤ k := by
  induction k with
  | zero => simp [vSieve]
  | succ k ih =>
    unfold vSieve
    rw [List.length_append]
    split
    · split <;> simp <;> omega
    · simp; omega
def vCompact (l : List VR) (at_ : Int) : List VR := vSieve l (vStay l at_) l.length
def vKept (l : List VR) (at_ : Int) (ends : Bool) : List RV := (vSieve l (fun i v => decide (v.rev_Main ≤ at_) && vStay l at_ i v && (ends || !v.gone)) l.length).map VR.rv
def vSinceP (l : List VR) (at_ : Int) (i : Nat) (v : VR) : Bool := decide (at_ ≤ v.rev_Main) && (match l[i + 1]? with | some u => decide (u.rev_Main ≠ v.rev_Main) | none => true)
def vSince (l : List VR) (at_ : Int) : List RV := (vSieve l (vSinceP l at_) l.length).map VR.rv
theorem vSinceP_lt {l : List VR} {at_ : Int} {i : Nat} {v : VR} (h : ¬ at_ ≤ v.rev_Main) : vSinceP l at_ i v = false := by
  unfold vSinceP
  rw [decide_eq_false (by omega), Bool.false_and]
theorem vSinceP_end {l : List VR} {at_ : Int} {i : Nat} {v : VR} (h : at_ ≤ v.rev_Main) (hi : (i : Int) = (l.length : Int) - 1) : vSinceP l at_ i v = true := by
  unfold vSinceP
  rw [decide_eq_true (by omega), List.getElem?_eq_none (by omega)]; rfl
theorem vSinceP_next {l : List VR} {at_ : Int} {i : Nat} {v u : VR} (h : at_ ≤ v.rev_Main) (hu : l[i + 1]? = some u) : vSinceP l at_ i v = decide (u.rev_Main ≠ v.rev_Main) := by
  unfold vSinceP
  rw [decide_eq_true (by omega), hu, Bool.true_and]
theorem rv_take_snoc {L : List VR} {k : Nat} {x : VR} (h : L[k]? = some x) : L.take (k + 1) = L.take k ++ [x] := by
  rw [List.take_add_one, h]; rfl
/-- A life: how often, from when on, which revisions. -/
structure GM where
  ver : Int
  cm : Int
  cs : Int
  l : List RV
def GN.m (x : GN) : GM := ⟨x.ver, x.created_Main, x.created_Sub, x.l⟩
/-- The last life's revisions are ours. -/
def Tlk (T : List GN) (lv : Value) (ll : List RV) : Prop := (T = [] ∧ lv = .slice none 0 0 ∧ ll = []) ∨ ∃ a b c, T = [⟨a, b, c, lv, ll⟩]
def GOk (R : HP) (x : GN) : Prop := RS R 2 x.revs x.l.length (x.l.flatMap RV.cells)
theorem GOk.mono {R R' : HP} {x : GN} (h : GOk R x) (s : Sub R R') : GOk R' x := RS.mono h s
/-- Lives that are only read. -/
def GS (R : HP) (v : Value) (G : List GM) : Prop := ∃ N : List GN, N.map GN.m = G ∧ RS R 4 v N.length (N.flatMap GN.cells) ∧ ∀ x ∈ N, GOk R x
theorem GS.mono {R R' : HP} {v : Value} {G : List GM} (h : GS R v G) (s : Sub R R') : GS R' v G := by
  obtain ⟨N, h1, h2, h3⟩ := h
  exact ⟨N, h1, h2.mono s, fun x hx => (h3 x hx).mono s⟩
structure KM where
  ok : Bool
  mm : Int
  ms : Int
  cm : Int
  cs : Int
  ver : Int
  rl : List RV
  dm : Int
  ds : Int
  gl : List GM
def KA.m (x : KA) : KM := ⟨x.oK, x.mod_Main, x.mod_Sub, x.created_Main, x.created_Sub, x.ver, x.rl, x.dump_Modified_Main, x.dump_Modified_Sub, x.gl.map GN.m⟩
def KOk (R : HP) (x : KA) : Prop := RS R 2 x.revs x.rl.length (x.rl.flatMap RV.cells) ∧ RS R 4 x.dump_Gens x.gl.length (x.gl.flatMap GN.cells) ∧ ∀ y ∈ x.gl, GOk R y
theorem KOk.mono {R R' : HP} {x : KA} (h : KOk R x) (s : Sub R R') : KOk R' x := ⟨h.1.mono s, h.2.1.mono s, fun y hy => (h.2.2 y hy).mono s⟩

end Go.Proofs.Ytiblemgccgbhoaa
