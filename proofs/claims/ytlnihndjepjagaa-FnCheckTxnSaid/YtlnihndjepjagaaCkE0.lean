/- Requests as the server reads them. -/
import Derived.Test.YtlnihndjepjagaaCkD0
set_option linter.unusedVariables false
set_option linter.unusedSimpArgs false
namespace Go.Proofs.Ytlnihndjepjagaa
open Go Go.RowKit Gw

/-- A number as the server's order or target: one of no 32 bits is -1. -/
def ord32 (i : Int) : Int := if i < -2147483648 ∨ 2147483647 < i then -1 else i
def pv (b : Nat) : Value := .pointer (some ⟨b, 0, none⟩)
def All2 {α : Type} (P : Nat → α → Prop) (C : List Nat) (l : List α) : Prop := C.length = l.length ∧ ∀ (i c : Nat) (y : α), C[i]? = some c → l[i]? = some y → P c y
theorem All2.nil {α : Type} {P : Nat → α → Prop} : All2 P [] ([] : List α) := ⟨rfl, fun i c y h => by simp at h⟩
theorem All2.mono {α : Type} {P P' : Nat → α → Prop} {C : List Nat} {l : List α} (h : All2 P C l) (hp : ∀ c y, P c y → P' c y) : All2 P' C l := ⟨h.1, fun i c y a b => hp c y (h.2 i c y a b)⟩
theorem All2.snoc {α : Type} {P : Nat → α → Prop} {C : List Nat} {l : List α} {k c : Nat} {y : α} (h : All2 P C (l.take k)) (hy : l[k]? = some y) (hp : P c y) : All2 P (C ++ [c]) (l.take (k + 1)) := by
  have hk := (List.getElem?_eq_some_iff.1 hy).1
  have hl : C.length = k := by have := h.1; rw [List.length_take] at this; omega
  rw [take_snoc hy]
  refine ⟨by rw [List.length_append, List.length_append, h.1]; rfl, fun i a z h1 h2 => ?_⟩
  by_cases hi : i < C.length
  · rw [List.getElem?_append_left hi] at h1
    rw [List.getElem?_append_left (by rw [← h.1]; exact hi)] at h2
    exact h.2 i a z h1 h2
  · have hi2 : i = C.length := by
      have := (List.getElem?_eq_some_iff.1 h1).1
      rw [List.length_append] at this; simp at this; omega
    subst hi2
    rw [List.getElem?_append_right (Nat.le_refl _), Nat.sub_self] at h1
    have e : C.length = (l.take k).length := h.1
    rw [e, List.getElem?_append_right (Nat.le_refl _), Nat.sub_self] at h2
    simp at h1 h2
    subst h1; subst h2; exact hp
theorem All2.at_ {α : Type} {P : Nat → α → Prop} {C : List Nat} {l : List α} (h : All2 P C l) {k c : Nat} (hc : C[k]? = some c) : ∃ y, l[k]? = some y ∧ P c y := by
  have hk := (List.getElem?_eq_some_iff.1 hc).1
  rw [h.1] at hk
  exact ⟨l[k], List.getElem?_eq_some_iff.2 ⟨hk, rfl⟩, h.2 k c _ hc (List.getElem?_eq_some_iff.2 ⟨hk, rfl⟩)⟩
/-- A compare, as the server reads it. -/
def CmpAt (R : HP) (b : Nat) (y : CM) : Prop := ∃ (kv c0 c1 : Value), RS R 1 kv (List.length (ints y.key)) (bytesV (ints y.key)) ∧ RC R b 0 [c0, c1, kv]
def RngAt (R : HP) (b : Nat) (x : RT) : Prop := ∃ (kv c1 c2 c3 : Value), RS R 1 kv (List.length (ints x.q.key)) (bytesV (ints x.q.key)) ∧ RC R b 0 [kv, c1, c2, c3, .int .i32 (ord32 x.q.sortOrder), .int .i32 (ord32 x.q.sortTarget)]
/-- A request in a transaction, as the server reads it. -/
inductive OpAt (R : HP) : Nat → RT → Prop
  | rng (b b1 b2 : Nat) (x : RT) : x.q.kind = 1 → RC R b 0 [.iface 150 (pv b1)] → RC R b1 0 [pv b2] → RngAt R b2 x → OpAt R b x
  | txn (b b1 b2 : Nat) (x : RT) (v1 v2 v3 : Value) (C T E : List Nat) : x.q.kind = 4 → RC R b 0 [.iface 161 (pv b1)] → RC R b1 0 [pv b2] → RC R b2 0 [v1, v2, v3] →
      RS R 1 v1 (List.length C) (C.map pv) → RS R 1 v2 (List.length T) (T.map pv) → RS R 1 v3 (List.length E) (E.map pv) → All2 (CmpAt R) C x.cc →
      T.length = x.tt.length → (∀ (i c : Nat) (y : RT), T[i]? = some c → x.tt[i]? = some y → OpAt R c y) → E.length = x.ee.length → (∀ (i c : Nat) (y : RT), E[i]? = some c → x.ee[i]? = some y → OpAt R c y) → OpAt R b x
def TxnAt (R : HP) (b : Nat) (x : RT) : Prop := ∃ (v1 v2 v3 : Value) (C T E : List Nat), RC R b 0 [v1, v2, v3] ∧ RS R 1 v1 (List.length C) (C.map pv) ∧ RS R 1 v2 (List.length T) (T.map pv) ∧ RS R 1 v3 (List.length E) (E.map pv) ∧
  All2 (CmpAt R) C x.cc ∧ All2 (OpAt R) T x.tt ∧ All2 (OpAt R) E x.ee
theorem OpAt.of_txn {R : HP} {b b1 b2 : Nat} {x : RT} (h4 : x.q.kind = 4) (h : RC R b 0 [.iface 161 (pv b1)]) (h1 : RC R b1 0 [pv b2]) (h2 : TxnAt R b2 x) : OpAt R b x := by
  obtain ⟨v1, v2, v3, C, T, E, a1, a2, a3, a4, a5, a6, a7⟩ := h2
  exact .txn b b1 b2 x v1 v2 v3 C T E h4 h h1 a1 a2 a3 a4 a5 a6.1 a6.2 a7.1 a7.2
theorem CmpAt.mono {R R' : HP} (s : Sub R R') {b : Nat} {y : CM} (h : CmpAt R b y) : CmpAt R' b y := by
  obtain ⟨kv, c0, c1, h1, h2⟩ := h; exact ⟨kv, c0, c1, h1.mono s, h2.mono s⟩
theorem RngAt.mono {R R' : HP} (s : Sub R R') {b : Nat} {y : RT} (h : RngAt R b y) : RngAt R' b y := by
  obtain ⟨kv, c1, c2, c3, h1, h2⟩ := h; exact ⟨kv, c1, c2, c3, h1.mono s, h2.mono s⟩
theorem OpAt.mono {R R' : HP} (s : Sub R R') : ∀ {b : Nat} {x : RT}, OpAt R b x → OpAt R' b x := by
  intro b x h
  induction h with
  | rng b b1 b2 x hk h1 h2 h3 => exact .rng b b1 b2 x hk (h1.mono s) (h2.mono s) (h3.mono s)
  | txn b b1 b2 x v1 v2 v3 C T E hk h1 h2 h3 h4 h5 h6 h7 h8 _ h10 _ ih1 ih2 =>
    exact .txn b b1 b2 x v1 v2 v3 C T E hk (h1.mono s) (h2.mono s) (h3.mono s) (h4.mono s) (h5.mono s) (h6.mono s) (h7.mono fun c y h => h.mono s) h8 ih1 h10 ih2
theorem OpAt.all {R R' : HP} (s : Sub R R') {C : List Nat} {l : List RT} (h : All2 (OpAt R) C l) : All2 (OpAt R') C l := h.mono fun _ _ h => h.mono s
theorem TxnAt.mono {R R' : HP} (s : Sub R R') {b : Nat} {x : RT} (h : TxnAt R b x) : TxnAt R' b x := by
  obtain ⟨v1, v2, v3, C, T, E, a1, a2, a3, a4, a5, a6, a7⟩ := h
  exact ⟨v1, v2, v3, C, T, E, a1.mono s, a2.mono s, a3.mono s, a4.mono s, a5.mono fun _ _ h => h.mono s, OpAt.all s a6, OpAt.all s a7⟩
theorem ones_pv (T : List Nat) : ∀ u ∈ T.map pv, u.oneCell' = true := by
  intro u hu
  obtain ⟨b, _, rfl⟩ := List.mem_map.1 hu
  rfl


set_option maxHeartbeats 400000 in
theorem ckOrder (R : HP) (i : Int) :
    Tri Try.prog 68 #[(Value.int .i64 i)] R [] (fun v__ post__ => v__ = (Value.int .i32 (ord32 i)) ∧ post__ = []) := by
 refine Tri.into (n := 11) (al := [(Value.int .i64 i)]) Try.func68 rfl Try.ntmps68 rfl rfl fun w F H => ?_
 refine C_seq (fun K1_ hK1_ => ?_)
 refine C_reg ?_
 refine S_list (T_val (v := (Value.int .i32 0)) (x_assign rfl) ?_)
 refine wpList_nil ?_
 refine (X_then (hK1_ _ _ ?_))
 clear hK1_
 refine C_seq (fun K2_ hK2_ => ?_)
 refine C_seq (fun K3_ hK3_ => ?_)
 refine C_reg ?_
 refine S_list (T_val (v := (Value.int .i64 i)) (x_move rfl) ?_)
 refine S_list (T_val (v := (Value.bool (decide (i < -2147483648)))) (x_bin rfl rfl rfl) ?_)
 refine S_list (T_val (v := (Value.bool (decide (i < -2147483648)))) (x_move rfl) ?_)
 rcases Bool.eq_false_or_eq_true (decide (i < -2147483648)) with c4_t | c4_f
 ·have c4_tp : i < -2147483648 := of_decide_eq_true c4_t
  refine S_no (j := 2) (dj := 5) (b := true) rfl rfl (congrArg Value.bool c4_t) (by decide) ?_
  refine S_no (j := 2) (dj := 5) (b := true) rfl rfl (congrArg Value.bool c4_t) (by decide) ?_
  refine S_list (T_pickT (v := (Value.bool true)) (congrArg Value.bool c4_t) rfl ?_)
  refine wpList_nil ?_
  refine (X_then (hK3_ _ _ ?_))
  clear hK3_
  refine C_condT rfl ?_
  refine C_seq (fun K5_ hK5_ => ?_)
  refine C_reg ?_
  refine S_list (T_val (v := (Value.int .i32 (-1))) (x_assign rfl) ?_)
  refine wpList_nil ?_
  refine (X_then (hK5_ _ _ ?_))
  clear hK5_
  refine C_ret (X_thenR ?_)
  refine R_any (v := (Value.int .i32 (-1))) (run_results1 rfl rfl) ?_
  exact ⟨_, _, rfl, ⟨(congrArg (Value.int .i32) ((by unfold ord32; rw [if_pos (by omega)]) : -1 = ord32 i)), rfl⟩, (Same.refl w), H⟩
 ·have c4_fp : ¬ (i < -2147483648) := of_decide_eq_false c4_f
  refine S_yes (j := 2) (dj := 5) (b := false) rfl rfl (congrArg Value.bool c4_f) (T_val (v := (Value.int .i64 i)) (x_move rfl) ?_)
  refine S_yes (j := 2) (dj := 5) (b := false) rfl rfl (congrArg Value.bool c4_f) (T_val (v := (Value.bool (decide (2147483647 < i)))) (x_bin rfl rfl rfl) ?_)
  refine S_list (T_pickF (v := (Value.bool (decide (2147483647 < i)))) (congrArg Value.bool c4_f) rfl ?_)
  refine wpList_nil ?_
  refine (X_then (hK3_ _ _ ?_))
  clear hK3_
  refine C_cond (b := decide (2147483647 < i)) rfl (fun c6_t => ?_) (fun c6_f => ?_)
  ·have c6_tp : 2147483647 < i := of_decide_eq_true c6_t
   refine C_seq (fun K7_ hK7_ => ?_)
   refine C_reg ?_
   refine S_list (T_val (v := (Value.int .i32 (-1))) (x_assign rfl) ?_)
   refine wpList_nil ?_
   refine (X_then (hK7_ _ _ ?_))
   clear hK7_
   refine C_ret (X_thenR ?_)
   refine R_any (v := (Value.int .i32 (-1))) (run_results1 rfl rfl) ?_
   exact ⟨_, _, rfl, ⟨(congrArg (Value.int .i32) ((by unfold ord32; rw [if_pos (by omega)]) : -1 = ord32 i)), rfl⟩, (Same.refl w), H⟩
  ·have c6_fp : ¬ (2147483647 < i) := of_decide_eq_false c6_f
   refine C_skip (X_then (hK2_ _ _ ?_))
   clear hK2_
   refine C_seq (fun K8_ hK8_ => ?_)
   refine C_reg ?_
   refine S_list (T_val (v := (Value.int .i64 i)) (x_move rfl) ?_)
   refine S_list (T_val (v := (Value.int .i32 (IntKind.i32.wrap i))) (x_convI rfl Try.underlying3 Try.underlying21 rfl) ?_)
   refine S_list (T_val (v := (Value.int .i32 (IntKind.i32.wrap i))) (x_assign rfl) ?_)
   refine wpList_nil ?_
   refine (X_then (hK8_ _ _ ?_))
   clear hK8_
   refine C_ret ?_
   refine R_any (v := (Value.int .i32 (IntKind.i32.wrap i))) (run_results1 rfl rfl) ?_
   exact ⟨_, _, rfl, ⟨(congrArg (Value.int .i32) ((by unfold ord32; rw [if_neg (by omega)]; exact IntWalk.i32_in _ (by omega)) : IntKind.i32.wrap i = ord32 i)), rfl⟩, (Same.refl w), H⟩

set_option maxHeartbeats 400000 in
theorem ckBytes (R : HP) (t : ByteArray) :
    Tri Try.prog 67 #[(Value.string t)] R [] (fun v__ post__ => ∃ (a' : Option Addr) (m' c' : Nat), v__ = (Value.slice a' m' c') ∧ post__ = []) := by
 refine Tri.into (n := 7) (al := [(Value.string t)]) Try.func67 rfl Try.ntmps67 rfl rfl fun w F H => ?_
 refine C_seq (fun K1_ hK1_ => ?_)
 refine C_reg ?_
 refine S_list (T_val (v := (Value.slice none 0 0)) (x_assign rfl) ?_)
 refine wpList_nil ?_
 refine (X_then (hK1_ _ _ ?_))
 clear hK1_
 refine C_seq (fun K2_ hK2_ => ?_)
 refine C_seq (fun K3_ hK3_ => ?_)
 refine C_reg ?_
 refine S_list (T_val (v := (Value.string t)) (x_move rfl) ?_)
 refine S_list (T_val (v := (Value.bool (t.toList == (ByteArray.mk #[]).toList))) (x_str rfl rfl rfl (by decide)) ?_)
 refine wpList_nil ?_
 refine (X_then (hK3_ _ _ ?_))
 clear hK3_
 refine C_cond (b := t.toList == (ByteArray.mk #[]).toList) rfl (fun c4_t => ?_) (fun c4_f => ?_)
 ·skip
  refine C_seq (fun K5_ hK5_ => ?_)
  refine C_reg ?_
  refine S_list (T_val (v := (Value.slice none 0 0)) (x_assign rfl) ?_)
  refine wpList_nil ?_
  refine (X_then (hK5_ _ _ ?_))
  clear hK5_
  refine C_ret (X_thenR ?_)
  refine R_any (v := (Value.slice none 0 0)) (run_results1 rfl rfl) ?_
  exact ⟨_, _, rfl, ⟨none, 0, 0, rfl, rfl⟩, (Same.refl w), H⟩
 ·skip
  refine C_skip (X_then (hK2_ _ _ ?_))
  clear hK2_
  refine C_seq (fun K6_ hK6_ => ?_)
  refine C_reg ?_
  refine S_list (T_val (v := (Value.string t)) (x_move rfl) ?_)
  refine S_list (T_s2b rfl Try.underlying9 Try.underlying122 Try.underlying5 H ?_)
  intro b7_ cp8_ w9_ S11_ hc12_ H10_
  have S13_ := Same.trans (Same.refl w) S11_
  have H14_ := Holds.resl H10_ 0 rfl (byteCells_bytesV _ : byteCells t = bytesV (ints t)) rfl
  have H15_ := Holds.resl H14_ 0 rfl (rfl : bytesV (ints t) = bytesV (ints t)) ((ints_length _).symm : t.size = (List.length (ints t)))
  refine S_list (T_val (v := (Value.slice (some ⟨b7_, 0, none⟩) t.size cp8_)) (x_assign rfl) ?_)
  refine wpList_nil ?_
  refine (X_then (hK6_ _ _ ?_))
  clear hK6_
  refine C_ret ?_
  refine R_any (v := (Value.slice (some ⟨b7_, 0, none⟩) t.size cp8_)) (run_results1 rfl rfl) ?_
  have H16_ : Holds w9_ (ro R :: F) := (Holds.pkF H15_ [1] 1 :)
  exact ⟨_, _, rfl, ⟨(some ⟨b7_, 0, none⟩), t.size, cp8_, rfl, rfl⟩, S13_, H16_⟩
end Go.Proofs.Ytlnihndjepjagaa
