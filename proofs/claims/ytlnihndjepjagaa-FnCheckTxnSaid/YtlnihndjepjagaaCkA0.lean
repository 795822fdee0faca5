/- Requests as trees. -/
import Derived.Test.YtlnihndjepjagaaTy
import Derived.Test.YtlnihndjepjagaaGwZ
import Derived.Test.YtlnihndjepjagaaGwR
import Derived.Test.YtlnihndjepjagaaGwO
set_option linter.unusedVariables false
set_option linter.unusedSimpArgs false
namespace Go.Proofs.Ytlnihndjepjagaa
open Go Go.RowKit Gw

structure RQ where
  kind : Int
  key : ByteArray
  end_ : ByteArray
  value : ByteArray
  lease : Int
  rev : Int
  limit : Int
  sortOrder : Int
  sortTarget : Int
  minMod : Int
  maxMod : Int
  minCreate : Int
  maxCreate : Int
  keysOnly : Bool
  countOnly : Bool
  prev : Bool
  ignoreValue : Bool
  ignoreLease : Bool
  cmps : Value
  then_ : Value
  else_ : Value
def RQ.cells (x : RQ) : List Value := [(Value.int .i64 x.kind), (Value.string x.key), (Value.string x.end_), (Value.string x.value), (Value.int .i64 x.lease), (Value.int .i64 x.rev), (Value.int .i64 x.limit), (Value.int .i64 x.sortOrder), (Value.int .i64 x.sortTarget), (Value.int .i64 x.minMod), (Value.int .i64 x.maxMod), (Value.int .i64 x.minCreate), (Value.int .i64 x.maxCreate), (Value.bool x.keysOnly), (Value.bool x.countOnly), (Value.bool x.prev), (Value.bool x.ignoreValue), (Value.bool x.ignoreLease), x.cmps, x.then_, x.else_]
theorem RQ.len (x : RQ) : x.cells.length = 21 := rfl

structure CM where
  target : Int
  result : Int
  key : ByteArray
  end_ : ByteArray
  n : Int
  value : ByteArray
  bare : Bool
def CM.cells (x : CM) : List Value := [(Value.int .i64 x.target), (Value.int .i64 x.result), (Value.string x.key), (Value.string x.end_), (Value.int .i64 x.n), (Value.string x.value), (Value.bool x.bare)]
theorem CM.len (x : CM) : x.cells.length = 7 := rfl

/-- A request, with the compares and requests in it. -/
inductive RT where
  | mk (q : RQ) (cc : List CM) (tt ee : List RT)
def RT.q : RT → RQ | .mk q _ _ _ => q
def RT.cc : RT → List CM | .mk _ cc _ _ => cc
def RT.tt : RT → List RT | .mk _ _ tt _ => tt
def RT.ee : RT → List RT | .mk _ _ _ ee => ee
def RT.cells (x : RT) : List Value := x.q.cells
theorem RT.len (x : RT) : x.cells.length = 21 := rfl
noncomputable def RT.sz (x : RT) : Nat := SizeOf.sizeOf x
noncomputable def lsz (L : List RT) : Nat := SizeOf.sizeOf L
theorem RT.sz_tt (x : RT) : lsz x.tt < x.sz := by cases x; unfold lsz RT.sz; simp only [RT.tt, RT.mk.sizeOf_spec]; omega
theorem RT.sz_ee (x : RT) : lsz x.ee < x.sz := by cases x; unfold lsz RT.sz; simp only [RT.ee, RT.mk.sizeOf_spec]; omega
theorem RT.sz_mem {x : RT} {L : List RT} (h : x ∈ L) : x.sz < lsz L := List.sizeOf_lt_of_mem h
/-- Its lists stand in what is only read; those of transactions are looked into. -/
inductive RAt (R : HP) : RT → Prop
  | mk (x : RT) : RS R 7 x.q.cmps x.cc.length (x.cc.flatMap CM.cells) → RS R 21 x.q.then_ x.tt.length (x.tt.flatMap RT.cells) → RS R 21 x.q.else_ x.ee.length (x.ee.flatMap RT.cells) →
      (x.cc.length ≤ 1000000000000000 ∧ x.tt.length ≤ 1000000000000000 ∧ x.ee.length ≤ 1000000000000000) → (∀ y ∈ x.tt, RAt R y) → (∀ y ∈ x.ee, RAt R y) → RAt R x
theorem RAt.c {R : HP} {x : RT} (h : RAt R x) : RS R 7 x.q.cmps x.cc.length (x.cc.flatMap CM.cells) := by cases h; assumption
theorem RAt.t {R : HP} {x : RT} (h : RAt R x) : RS R 21 x.q.then_ x.tt.length (x.tt.flatMap RT.cells) := by cases h; assumption
theorem RAt.e {R : HP} {x : RT} (h : RAt R x) : RS R 21 x.q.else_ x.ee.length (x.ee.flatMap RT.cells) := by cases h; assumption
theorem RAt.b {R : HP} {x : RT} (h : RAt R x) : x.cc.length ≤ 1000000000000000 ∧ x.tt.length ≤ 1000000000000000 ∧ x.ee.length ≤ 1000000000000000 := by cases h; assumption
theorem RAt.tt {R : HP} {x : RT} (h : RAt R x) : ∀ y ∈ x.tt, RAt R y := by cases h; assumption
theorem RAt.ee {R : HP} {x : RT} (h : RAt R x) : ∀ y ∈ x.ee, RAt R y := by cases h; assumption
theorem RAt.mono {R R' : HP} (s : Sub R R') : ∀ {x : RT}, RAt R x → RAt R' x := by
  intro x h
  induction h with
  | mk x h1 h2 h3 h4 _ _ ih1 ih2 => exact .mk x (h1.mono s) (h2.mono s) (h3.mono s) h4 ih1 ih2
def RAts (R : HP) (L : List RT) : Prop := ∀ y ∈ L, RAt R y
theorem drop_at {α : Type} {l : List α} {k : Nat} {x : α} (h : l[k]? = some x) : l.drop k = x :: l.drop (k + 1) := by
  obtain ⟨h1, h2⟩ := List.getElem?_eq_some_iff.1 h
  rw [← h2, List.getElem_cons_drop]
theorem take_snoc {α : Type} {l : List α} {k : Nat} {x : α} (h : l[k]? = some x) : l.take (k + 1) = l.take k ++ [x] := by rw [List.take_add_one, h]; rfl
/-! ### What the guards reckon -/
mutual
/-- How many requests and compares; -1: too many, or too deep, or one of no kind. -/
def manyT : RT → Nat → Int → Int
  | .mk q cc tt ee, deep, n =>
    if q.kind < 1 ∨ 4 < q.kind ∨ (q.kind = 4 ∧ deep = 0) then -1
    else if q.kind ≠ 4 then n + 1
    else if manyL tt (deep - 1) 0 < 0 ∨ manyL ee (deep - 1) 0 < 0 ∨ 200 < n + 1 + (manyL tt (deep - 1) 0 + manyL ee (deep - 1) 0 + cc.length) then -1
    else n + 1 + (manyL tt (deep - 1) 0 + manyL ee (deep - 1) 0 + cc.length)
def manyL : List RT → Nat → Int → Int
  | [], _, n => n
  | x :: l, deep, n => if manyT x deep n < 0 then -1 else manyL l deep (manyT x deep n)
end
mutual
/-- How many of these kinds there are. -/
def cntT (k : Int) : RT → Nat
  | .mk q _ tt ee => (if q.kind = k then 1 else 0) + (if q.kind = 4 then cntL k tt + cntL k ee else 0)
def cntL (k : Int) : List RT → Nat
  | [] => 0
  | x :: l => cntT k x + cntL k l
end
mutual
/-- What a request is refused for. -/
def refT : RT → Int → Int
  | .mk q cc tt ee, most =>
    if q.kind = 1 then (if q.key.size = 0 then 1 else if q.sortOrder < 0 ∨ 2 < q.sortOrder ∨ q.sortTarget < 0 ∨ 4 < q.sortTarget then 6 else 0)
    else if ((max (max cc.length tt.length) ee.length : Nat) : Int) > most then 4
    else if cc.any (fun c => decide (c.key.size = 0)) then 1
    else if refL tt (most - (max (max cc.length tt.length) ee.length : Nat)) ≠ 0 then refL tt (most - (max (max cc.length tt.length) ee.length : Nat))
    else refL ee (most - (max (max cc.length tt.length) ee.length : Nat))
def refL : List RT → Int → Int
  | [], _ => 0
  | x :: l, most => if refT x most ≠ 0 then refT x most else refL l most
end
theorem manyT_def (x : RT) (deep : Nat) (n : Int) : manyT x deep n = if x.q.kind < 1 ∨ 4 < x.q.kind ∨ (x.q.kind = 4 ∧ deep = 0) then -1
    else if x.q.kind ≠ 4 then n + 1
    else if manyL x.tt (deep - 1) 0 < 0 ∨ manyL x.ee (deep - 1) 0 < 0 ∨ 200 < n + 1 + (manyL x.tt (deep - 1) 0 + manyL x.ee (deep - 1) 0 + x.cc.length) then -1
    else n + 1 + (manyL x.tt (deep - 1) 0 + manyL x.ee (deep - 1) 0 + x.cc.length) := by
  cases x; rw [manyT]; rfl
theorem many_bad {L : List RT} {k deep : Nat} {n : Int} {x : RT} (hx : L[k]? = some x) (h : manyT x deep n = -1) : manyL (L.drop k) deep n = -1 := by
  rw [drop_at hx, manyL, h]; rfl
theorem many_go {L : List RT} {k deep : Nat} {n m : Int} {x : RT} (hx : L[k]? = some x) (h : manyT x deep n = m) (h0 : 0 ≤ m) : manyL (L.drop k) deep n = manyL (L.drop (k + 1)) deep m := by
  rw [drop_at hx, manyL, h, if_neg (by omega)]
theorem many_end {L : List RT} {k deep : Nat} {n : Int} (h : L.length ≤ k) : manyL (L.drop k) deep n = n := by
  rw [List.drop_of_length_le h, manyL]
theorem manyL_bd : ∀ (L : List RT) (deep : Nat) (n : Int), 0 ≤ n → -1 ≤ manyL L deep n ∧ (manyL L deep n ≤ n + L.length ∨ manyL L deep n ≤ 200 + L.length)
  | [], deep, n, h => by rw [manyL]; omega
  | x :: l, deep, n, h => by
    rw [manyL]
    split
    · exact ⟨by omega, .inr (by omega)⟩
    · rename_i hx
      have hm : manyT x deep n = n + 1 ∨ (0 ≤ manyT x deep n ∧ manyT x deep n ≤ 200) := by
        rw [manyT_def] at hx ⊢
        split
        · rename_i h1; rw [if_pos h1] at hx; omega
        · rename_i h1
          rw [if_neg h1] at hx
          split
          · exact .inl rfl
          · rename_i h2
            rw [if_neg h2] at hx
            split
            · rename_i h3; rw [if_pos h3] at hx; omega
            · rename_i h3; rw [if_neg h3] at hx; exact .inr (by omega)
      have ih := manyL_bd l deep (manyT x deep n) (by omega)
      rw [List.length_cons]
      rcases hm with hm | hm
      · rw [hm] at ih ⊢; omega
      · omega
theorem cnt_def (k : Int) (x : RT) : cntT k x = (if x.q.kind = k then 1 else 0) + (if x.q.kind = 4 then cntL k x.tt + cntL k x.ee else 0) := by
  cases x; rw [cntT]; rfl
theorem cnt_step {c : Int} {L : List RT} {k : Nat} {x : RT} (hx : L[k]? = some x) : cntL c (L.drop k) = cntT c x + cntL c (L.drop (k + 1)) := by
  rw [drop_at hx, cntL]
theorem cnt_end {c : Int} {L : List RT} {k : Nat} (h : L.length ≤ k) : cntL c (L.drop k) = 0 := by
  rw [List.drop_of_length_le h, cntL]
/-- Ranges, and transactions of such, alone. -/
inductive Pln : RT → Prop
  | mk (x : RT) : (x.q.kind = 1 ∨ x.q.kind = 4) → (x.q.kind = 4 → x.cc.length ≤ 200 ∧ x.tt.length ≤ 200 ∧ x.ee.length ≤ 200) → (x.q.kind = 4 → ∀ y ∈ x.tt, Pln y) → (x.q.kind = 4 → ∀ y ∈ x.ee, Pln y) → Pln x
theorem Pln.k {x : RT} (h : Pln x) : x.q.kind = 1 ∨ x.q.kind = 4 := by cases h; assumption
theorem Pln.b {x : RT} (h : Pln x) (h4 : x.q.kind = 4) : x.cc.length ≤ 200 ∧ x.tt.length ≤ 200 ∧ x.ee.length ≤ 200 := by cases h with | mk _ _ a _ _ => exact a h4
theorem Pln.tt {x : RT} (h : Pln x) (h4 : x.q.kind = 4) : ∀ y ∈ x.tt, Pln y := by cases h with | mk _ _ _ a _ => exact a h4
theorem Pln.ee {x : RT} (h : Pln x) (h4 : x.q.kind = 4) : ∀ y ∈ x.ee, Pln y := by cases h with | mk _ _ _ _ a => exact a h4
theorem manyL_len : ∀ (L : List RT) (deep : Nat) (n : Int), 0 ≤ n → 0 ≤ manyL L deep n → n + L.length ≤ manyL L deep n ∧ ∀ x ∈ L, ∃ m, 0 ≤ m ∧ 0 ≤ manyT x deep m
  | [], deep, n, _, h => by rw [manyL] at h ⊢; exact ⟨by simp, fun x hx => by cases hx⟩
  | x :: l, deep, n, hn, h => by
    rw [manyL] at h ⊢
    split at h
    · omega
    · rename_i hx
      rw [if_neg hx]
      have ih := manyL_len l deep (manyT x deep n) (by omega) h
      have h1 : n + 1 ≤ manyT x deep n := by
        rw [manyT_def] at hx ⊢
        split
        · rename_i h1; rw [if_pos h1] at hx; omega
        · rename_i h1
          rw [if_neg h1] at hx
          split
          · omega
          · rename_i h2
            rw [if_neg h2] at hx
            split
            · rename_i h3; rw [if_pos h3] at hx; omega
            · rename_i h3; omega
      refine ⟨by rw [List.length_cons]; omega, fun y hy => ?_⟩
      rcases List.mem_cons.1 hy with rfl | hy
      · exact ⟨n, hn, by omega⟩
      · exact ih.2 y hy
theorem pln_of : ∀ (s : Nat) (x : RT), x.sz ≤ s → ∀ (deep : Nat) (m : Int), 0 ≤ m → 0 ≤ manyT x deep m → cntT 2 x = 0 → cntT 3 x = 0 → Pln x := by
  intro s
  induction s with
  | zero => intro x hs; have := x.sz_tt; omega
  | succ s ih =>
    intro x hs deep m hm h h2 h3
    rw [manyT_def] at h
    rw [cnt_def] at h2 h3
    split at h
    · omega
    · rename_i h0
      have hk : x.q.kind = 1 ∨ x.q.kind = 4 := by
        have k2 : x.q.kind ≠ 2 := fun e => by rw [if_pos e] at h2; omega
        have k3 : x.q.kind ≠ 3 := fun e => by rw [if_pos e] at h3; omega
        omega
      split at h
      · rename_i h4
        exact .mk x hk (fun e => absurd e h4) (fun e => absurd e h4) (fun e => absurd e h4)
      · rename_i h4
        have h4 : x.q.kind = 4 := Decidable.not_not.1 h4
        split at h
        · omega
        · rename_i h5
          rw [if_pos h4] at h2 h3
          have ht := manyL_len x.tt (deep - 1) 0 (Int.le_refl 0) (by omega)
          have he := manyL_len x.ee (deep - 1) 0 (Int.le_refl 0) (by omega)
          have hcnt : ∀ (c : Int) (L : List RT), cntL c L = 0 → ∀ y ∈ L, cntT c y = 0 := by
            intro c L
            induction L with
            | nil => intro _ y hy; cases hy
            | cons a l ihl =>
              intro h y hy
              rw [cntL] at h
              rcases List.mem_cons.1 hy with rfl | hy
              · omega
              · exact ihl (by omega) y hy
          have s1 := x.sz_tt
          have s2 := x.sz_ee
          refine .mk x hk (fun _ => by omega) (fun _ y hy => ?_) (fun _ y hy => ?_)
          · obtain ⟨m2, a, b⟩ := ht.2 y hy
            have := RT.sz_mem hy
            exact ih y (by omega) (deep - 1) m2 a b (hcnt 2 _ (by omega) y hy) (hcnt 3 _ (by omega) y hy)
          · obtain ⟨m2, a, b⟩ := he.2 y hy
            have := RT.sz_mem hy
            exact ih y (by omega) (deep - 1) m2 a b (hcnt 2 _ (by omega) y hy) (hcnt 3 _ (by omega) y hy)

end Go.Proofs.Ytlnihndjepjagaa
