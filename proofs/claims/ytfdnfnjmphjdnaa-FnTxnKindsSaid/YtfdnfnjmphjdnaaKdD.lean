/- Transactions as trees in what is only read. -/
import Derived.Test.YtfdnfnjmphjdnaaGwM
set_option linter.unusedVariables false
set_option linter.unusedSimpArgs false
namespace Go.Proofs.Ytfdnfnjmphjdnaa
open Go Go.RowKit Gw
/-- A compare's cells. -/
structure CmpS where
  T : Int
  r : Int
  key : ByteArray
  en : ByteArray
  n : Int
  val : ByteArray
  bare : Bool
def CmpS.cells (c : CmpS) : List Value := [.int .i64 c.T, .int .i64 c.r, .string c.key, .string c.en, .int .i64 c.n, .string c.val, .bool c.bare]
theorem CmpS.len (c : CmpS) : c.cells.length = 7 := rfl
/-- A request's cells. -/
structure ReqS where
  kind : Int
  key : ByteArray
  en : ByteArray
  val : ByteArray
  lease : Int
  rev : Int
  limit : Int
  order : Int
  target : Int
  minMod : Int
  maxMod : Int
  minCreate : Int
  maxCreate : Int
  keysOnly : Bool
  countOnly : Bool
  prev : Bool
  ignValue : Bool
  ignLease : Bool
  cA : Option Addr
  cN : Nat
  cC : Nat
  tA : Option Addr
  tN : Nat
  tC : Nat
  eA : Option Addr
  eN : Nat
  eC : Nat
/-- Its lists. -/
abbrev ReqS.cmps (q : ReqS) : Value := .slice q.cA q.cN q.cC
abbrev ReqS.thn (q : ReqS) : Value := .slice q.tA q.tN q.tC
abbrev ReqS.els (q : ReqS) : Value := .slice q.eA q.eN q.eC
def ReqS.cells (q : ReqS) : List Value := [.int .i64 q.kind, .string q.key, .string q.en, .string q.val, .int .i64 q.lease, .int .i64 q.rev, .int .i64 q.limit, .int .i64 q.order, .int .i64 q.target,
  .int .i64 q.minMod, .int .i64 q.maxMod, .int .i64 q.minCreate, .int .i64 q.maxCreate, .bool q.keysOnly, .bool q.countOnly, .bool q.prev, .bool q.ignValue, .bool q.ignLease, .slice q.cA q.cN q.cC, .slice q.tA q.tN q.tC, .slice q.eA q.eN q.eC]
theorem ReqS.len (q : ReqS) : q.cells.length = 21 := rfl
/-- A request's lists. -/
structure Lists (R : HP) (q : ReqS) (cc : List CmpS) (tt ee : List ReqS) : Prop where
  c : RS R 7 q.cmps cc.length (cc.flatMap CmpS.cells)
  t : RS R 21 q.thn tt.length (tt.flatMap ReqS.cells)
  e : RS R 21 q.els ee.length (ee.flatMap ReqS.cells)
/-- A request as a tree. -/
inductive ReqT (R : HP) : ReqS → Prop
  | mk (q : ReqS) (cc : List CmpS) (tt ee : List ReqS) : Lists R q cc tt ee → (∀ x ∈ tt, ReqT R x) → (∀ x ∈ ee, ReqT R x) → ReqT R q
/-- One that laws speak of. -/
inductive ReqG (R : HP) : ReqS → Prop
  | mk (q : ReqS) (cc : List CmpS) (tt ee : List ReqS) : 1 ≤ q.kind → q.kind ≤ 4 → Lists R q cc tt ee → (q.kind = 4 → cc.length ≤ 8 ∧ tt.length ≤ 16 ∧ ee.length ≤ 16) →
      (q.kind = 4 → ∀ x ∈ tt, ReqG R x) → (q.kind = 4 → ∀ x ∈ ee, ReqG R x) → ReqG R q
theorem ReqG.kind {R : HP} {q : ReqS} (h : ReqG R q) : 1 ≤ q.kind ∧ q.kind ≤ 4 := by cases h; exact ⟨by assumption, by assumption⟩
/-- What an operation becomes. -/
def OpAt (R : HP) (p : Value) (x : ReqS) : Prop :=
  ∃ b b2 : Nat, p = .pointer (some ⟨b, 0, none⟩) ∧
    ((x.kind = 1 ∧ ∃ b3 cs, RC R b 0 [.iface 150 (.pointer (some ⟨b2, 0, none⟩))] ∧ RC R b2 0 [.pointer (some ⟨b3, 0, none⟩)] ∧ RC R b3 0 cs ∧ cs[6]? = some (.bool x.prev)) ∨
     (x.kind ≠ 1 ∧ RC R b 0 [.iface 157 (.pointer (some ⟨b2, 0, none⟩))]) ∨ (x.kind ≠ 1 ∧ RC R b 0 [.iface 162 (.pointer (some ⟨b2, 0, none⟩))]) ∨ (x.kind ≠ 1 ∧ RC R b 0 [.iface 167 (.pointer (some ⟨b2, 0, none⟩))]))
theorem OpAt.mono {R R' : HP} {p : Value} {x : ReqS} (h : OpAt R p x) (s : Sub R R') : OpAt R' p x := by
  obtain ⟨b, b2, hp, ⟨h1, b3, cs, a1, a2, a3, a4⟩ | ⟨h1, a⟩ | ⟨h1, a⟩ | ⟨h1, a⟩⟩ := h
  · exact ⟨b, b2, hp, .inl ⟨h1, b3, cs, a1.mono s, a2.mono s, a3.mono s, a4⟩⟩
  · exact ⟨b, b2, hp, .inr (.inl ⟨h1, a.mono s⟩)⟩
  · exact ⟨b, b2, hp, .inr (.inr (.inl ⟨h1, a.mono s⟩))⟩
  · exact ⟨b, b2, hp, .inr (.inr (.inr ⟨h1, a.mono s⟩))⟩
def OpsAt (R : HP) (ps : List Value) (l : List ReqS) : Prop := ps.length = l.length ∧ ∀ (i : Nat) (p : Value) (x : ReqS), ps[i]? = some p → l[i]? = some x → OpAt R p x
theorem OpsAt.nil (R : HP) : OpsAt R [] [] := ⟨rfl, fun i p x h => by simp at h⟩
theorem OpsAt.mono {R R' : HP} {ps : List Value} {l : List ReqS} (h : OpsAt R ps l) (s : Sub R R') : OpsAt R' ps l := ⟨h.1, fun i p x a b => (h.2 i p x a b).mono s⟩
theorem OpsAt.snoc {R R' : HP} {ps : List Value} {tt : List ReqS} {k : Nat} {p : Value} {x : ReqS} (h : OpsAt R ps (tt.take k)) (s : Sub R R') (hx : tt[k]? = some x) (ho : OpAt R' p x) : OpsAt R' (ps ++ [p]) (tt.take (k + 1)) := by
  obtain ⟨hk, hxe⟩ := List.getElem?_eq_some_iff.1 hx
  have hl := h.1
  rw [List.length_take, Nat.min_eq_left (by omega)] at hl
  refine ⟨by rw [List.length_append, List.length_take, hl, Nat.min_eq_left (by omega)]; rfl, fun i p' x' a b => ?_⟩
  have hi : i < k + 1 := by
    have := (List.getElem?_eq_some_iff.1 b).1
    rw [List.length_take] at this
    omega
  rw [List.getElem?_take_of_lt hi] at b
  by_cases hik : i < k
  · rw [List.getElem?_append_left (by omega)] at a
    exact (h.2 i p' x' a (by rw [List.getElem?_take_of_lt hik]; exact b)).mono s
  · have : i = k := by omega
    subst this
    rw [List.getElem?_append_right (by omega), hl, Nat.sub_self] at a
    simp only [List.getElem?_cons_zero, Option.some.injEq] at a
    rw [hx] at b
    cases a; cases b
    exact ho
section
variable {w : World} {l : List SP}
theorem rcOf {b T : Nat} {cs : List Value} {R : HP} (h : ∃ R0, cl b T cs R0 ∧ Sub R0 R) : RC R b 0 cs := by
  obtain ⟨R0, a, s⟩ := h
  exact (cl_RC a (Sub.rfl' _)).mono s
theorem opRange {R1 : HP} {b b2 b3 : Nat} {cs : List Value} {x : ReqS} (hk : x.kind = 1) (hc : cs[6]? = some (.bool x.prev)) (H : Holds w (ro R1 :: cl b 153 [.iface 150 (.pointer (some ⟨b2, 0, none⟩))] :: cl b2 155 [.pointer (some ⟨b3, 0, none⟩)] :: cl b3 135 cs :: l)) :
    ∃ R', Sub R1 R' ∧ OpAt R' (.pointer (some ⟨b, 0, none⟩)) x ∧ Holds w (ro R' :: l) := by
  obtain ⟨Ra, s1, h1, H⟩ := H.gift
  obtain ⟨Rb, s2, h2, H⟩ := H.gift
  obtain ⟨Rc, s3, h3, H⟩ := H.gift
  exact ⟨Rc, s1.trans' (s2.trans' s3), ⟨b, b2, rfl, .inl ⟨hk, b3, cs, ((rcOf h1).mono s2).mono s3, (rcOf h2).mono s3, rcOf h3, hc⟩⟩, H⟩
theorem opOther {R1 : HP} {b T : Nat} {V : Value} {x : ReqS} (hk : x.kind ≠ 1) (hT : (T = 157 ∨ T = 162 ∨ T = 167) ∧ ∃ b2, V = .pointer (some ⟨b2, 0, none⟩)) (H : Holds w (ro R1 :: cl b 153 [.iface T V] :: l)) :
    ∃ R', Sub R1 R' ∧ OpAt R' (.pointer (some ⟨b, 0, none⟩)) x ∧ Holds w (ro R' :: l) := by
  obtain ⟨Ra, s1, h1, H2⟩ := H.gift
  obtain ⟨hT, b2, rfl⟩ := hT
  have := rcOf h1
  rcases hT with rfl | rfl | rfl
  · exact ⟨Ra, s1, ⟨b, b2, rfl, .inr (.inl ⟨hk, this⟩)⟩, H2⟩
  · exact ⟨Ra, s1, ⟨b, b2, rfl, .inr (.inr (.inl ⟨hk, this⟩))⟩, H2⟩
  · exact ⟨Ra, s1, ⟨b, b2, rfl, .inr (.inr (.inr ⟨hk, this⟩))⟩, H2⟩
end
def rdo (l : List ReqS) : Bool := l.all fun x => decide (x.kind = 1)
def srl (l : List ReqS) : Bool := l.all fun x => decide (x.kind = 1) && x.prev
end Go.Proofs.Ytfdnfnjmphjdnaa
