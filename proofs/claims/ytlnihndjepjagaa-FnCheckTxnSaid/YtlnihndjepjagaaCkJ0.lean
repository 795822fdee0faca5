/- Ranges are checked. -/
import Derived.Test.YtlnihndjepjagaaCkI0
set_option linter.unusedVariables false
set_option linter.unusedSimpArgs false
namespace Go.Proofs.Ytlnihndjepjagaa
open Go Go.RowKit Gw

def mxT (x : RT) : Nat := max (max x.cc.length x.tt.length) x.ee.length
theorem ref_1 {x : RT} {most : Int} (h : x.q.kind = 1) : refT x most = if x.q.key.size = 0 then 1 else if x.q.sortOrder < 0 ∨ 2 < x.q.sortOrder ∨ x.q.sortTarget < 0 ∨ 4 < x.q.sortTarget then 6 else 0 := by
  cases x; rw [refT]; exact if_pos h
theorem ref_4 {x : RT} {most : Int} (h : x.q.kind = 4) : refT x most = if (mxT x : Int) > most then 4 else if x.cc.any (fun c => decide (c.key.size = 0)) then 1
    else if refL x.tt (most - mxT x) ≠ 0 then refL x.tt (most - mxT x) else refL x.ee (most - mxT x) := by
  cases x
  rw [refT]
  exact if_neg (by simp only [RT.q] at h; omega)
theorem ord32_lo (i : Int) : ord32 i < 0 ↔ i < 0 ∨ 2147483647 < i := by unfold ord32; split <;> omega
theorem ord32_hi {i k : Int} (h0 : 0 ≤ k) (h1 : k ≤ 2147483647) (h : ¬ ord32 i < 0) : k < ord32 i ↔ k < i := by
  have := ord32_lo i
  unfold ord32 at *; split <;> rename_i h2
  · rw [if_pos h2] at h; omega
  · rfl
theorem ref_many {x : RT} {most : Int} {m : Nat} (h4 : x.q.kind = 4) (hm : m = mxT x) (h : most < m) : refT x most = 4 := by
  rw [ref_4 h4, ← hm, if_pos h]
theorem ref_key {x : RT} {most : Int} {m k : Nat} {c : CM} (h4 : x.q.kind = 4) (hm : m = mxT x) (h : ¬ most < m) (hx : x.cc[k]? = some c) (hc : c.key.size = 0) : refT x most = 1 := by
  rw [ref_4 h4, ← hm, if_neg h, if_pos]
  exact List.any_eq_true.2 ⟨c, List.mem_of_getElem? hx, by simp [hc]⟩
theorem ref_tt {x y : RT} {most e : Int} {m k : Nat} (h4 : x.q.kind = 4) (hm : m = mxT x) (h : ¬ most < m) (hcc : ¬ x.cc.any (fun c => decide (c.key.size = 0)) = true) (hin : refL x.tt (most - m) = refL (x.tt.drop k) (most - m))
    (hy : x.tt[k]? = some y) (he : refT y (most - m) = e) (h0 : e ≠ 0) : refT x most = e := by
  rw [ref_4 h4, ← hm, if_neg h, if_neg hcc, hin, drop_at hy, refL, he, if_pos h0, if_pos h0]
theorem ref_ee {x y : RT} {most e : Int} {m k : Nat} (h4 : x.q.kind = 4) (hm : m = mxT x) (h : ¬ most < m) (hcc : ¬ x.cc.any (fun c => decide (c.key.size = 0)) = true) (htt : refL x.tt (most - m) = 0) (hin : refL x.ee (most - m) = refL (x.ee.drop k) (most - m))
    (hy : x.ee[k]? = some y) (he : refT y (most - m) = e) (h0 : e ≠ 0) : refT x most = e := by
  rw [ref_4 h4, ← hm, if_neg h, if_neg hcc, htt, hin, drop_at hy, refL, he, if_pos h0, if_neg (by simp)]
theorem ref_ok {x : RT} {most : Int} {m : Nat} (h4 : x.q.kind = 4) (hm : m = mxT x) (h : ¬ most < m) (hcc : ¬ x.cc.any (fun c => decide (c.key.size = 0)) = true) (htt : refL x.tt (most - m) = 0) (hee : refL x.ee (most - m) = 0) : refT x most = 0 := by
  rw [ref_4 h4, ← hm, if_neg h, if_neg hcc, htt, hee]; rfl
theorem ref_go {L : List RT} {m : Int} {k : Nat} {y : RT} (hy : L[k]? = some y) (he : refT y m = 0) : refL (L.drop k) m = refL (L.drop (k + 1)) m := by
  rw [drop_at hy, refL, he, if_neg (by simp)]
theorem ref_end {L : List RT} {m : Int} {k : Nat} (h : L.length ≤ k) : refL (L.drop k) m = 0 := by rw [List.drop_of_length_le h, refL]
theorem any_go {α : Type} {p : α → Bool} {l : List α} {k : Nat} {x : α} (h : ¬ (l.take k).any p = true) (hx : l[k]? = some x) (hp : p x = false) : ¬ (l.take (k + 1)).any p = true := by
  rw [take_snoc hx, List.any_append]; simp [hp]; simpa using h


set_option maxHeartbeats 400000 in
theorem ckRangeReq (R : HP) (b : Nat) (x : RT) (most : Int) (hr : RngAt R b x) (h1 : x.q.kind = 1) :
    Tri Try.prog 66 #[(Value.pointer (some ⟨b, 0, none⟩))] R [] (fun v__ post__ => (v__ = (Value.nilIface) ∧ post__ = [] ∧ (refT x most = 0)) ∨ (v__ = (Value.iface 133 (Value.string (ByteArray.mk #[101, 116, 99, 100, 115, 101, 114, 118, 101, 114, 58, 32, 107, 101, 121, 32, 105, 115, 32, 110, 111, 116, 32, 112, 114, 111, 118, 105, 100, 101, 100]))) ∧ post__ = [] ∧ (refT x most = 1)) ∨ (v__ = (Value.iface 133 (Value.string (ByteArray.mk #[101, 116, 99, 100, 115, 101, 114, 118, 101, 114, 58, 32, 105, 110, 118, 97, 108, 105, 100, 32, 115, 111, 114, 116, 32, 111, 112, 116, 105, 111, 110]))) ∧ post__ = [] ∧ (refT x most = 6))) := by
 obtain ⟨kv, c1, c2, c3, hkv, hrc⟩ := hr
 refine Tri.into (n := 36) (al := [(Value.pointer (some ⟨b, 0, none⟩))]) Try.func66 rfl Try.ntmps66 rfl rfl fun w F H => ?_
 replace H : Holds w (ro R :: F) := H
 refine C_seq (fun K1_ hK1_ => ?_)
 refine C_reg ?_
 refine S_list (T_val (v := (Value.nilIface)) (x_assign rfl) ?_)
 refine wpList_nil ?_
 refine (X_then (hK1_ _ _ ?_))
 clear hK1_
 refine C_seq (fun K2_ hK2_ => ?_)
 refine C_seq (fun K3_ hK3_ => ?_)
 refine C_reg ?_
 refine S_list (T_val (v := (Value.pointer (some ⟨b, 0, none⟩))) (x_move rfl) ?_)
 refine S_list (T_val (v := (Value.pointer (some ⟨b, 0, none⟩))) (by kernel_rfl) ?_)
 refine S_list (T_val (v := (Value.pointer (some ⟨b, 0, none⟩))) (by kernel_rfl) ?_)
 refine S_list (T_val (v := kv) (x_load1 rfl Try.underlying122 rfl (RC.cell hrc (Holds.ro_at H 0 rfl) (j := 0) (u := kv) (rfl))) ?_)
 refine S_list (T_val (v := (Value.int .i64 ((List.length (ints x.q.key)) : Int))) (x_lenRS rfl hkv Try.underlying122) ?_)
 refine S_list (T_val (v := (Value.bool (decide (((List.length (ints x.q.key)) : Int) = 0)))) (x_bin rfl rfl rfl) ?_)
 refine wpList_nil ?_
 refine (X_then (hK3_ _ _ ?_))
 clear hK3_
 refine C_cond (b := decide (((List.length (ints x.q.key)) : Int) = 0)) rfl (fun c4_t => ?_) (fun c4_f => ?_)
 ·have c4_tp : ((List.length (ints x.q.key)) : Int) = 0 := of_decide_eq_true c4_t
  refine C_seq (fun K5_ hK5_ => ?_)
  refine C_reg ?_
  refine S_list (T_val (v := (Value.iface 133 (Value.string (ByteArray.mk #[101, 116, 99, 100, 115, 101, 114, 118, 101, 114, 58, 32, 107, 101, 121, 32, 105, 115, 32, 110, 111, 116, 32, 112, 114, 111, 118, 105, 100, 101, 100])))) (by kernel_rfl) ?_)
  refine S_list (T_val (v := (Value.iface 133 (Value.string (ByteArray.mk #[101, 116, 99, 100, 115, 101, 114, 118, 101, 114, 58, 32, 107, 101, 121, 32, 105, 115, 32, 110, 111, 116, 32, 112, 114, 111, 118, 105, 100, 101, 100])))) (x_assign rfl) ?_)
  refine wpList_nil ?_
  refine (X_then (hK5_ _ _ ?_))
  clear hK5_
  refine C_ret (X_thenR ?_)
  refine R_any (v := (Value.iface 133 (Value.string (ByteArray.mk #[101, 116, 99, 100, 115, 101, 114, 118, 101, 114, 58, 32, 107, 101, 121, 32, 105, 115, 32, 110, 111, 116, 32, 112, 114, 111, 118, 105, 100, 101, 100])))) (run_results1 rfl rfl) ?_
  exact ⟨_, _, rfl, (.inr (.inl ⟨rfl, rfl, (by have hlo1 := ord32_lo x.q.sortOrder; have hlo2 := ord32_lo x.q.sortTarget; have hhi1 := @ord32_hi x.q.sortOrder 2 (by decide) (by decide); have hhi2 := @ord32_hi x.q.sortTarget 4 (by decide) (by decide); rw [ints_length] at *; rw [ref_1 h1]; split <;> first | rfl | omega | (split <;> first | rfl | omega))⟩)), (Same.refl w), H⟩
 ·have c4_fp : ¬ (((List.length (ints x.q.key)) : Int) = 0) := of_decide_eq_false c4_f
  refine C_skip (X_then (hK2_ _ _ ?_))
  clear hK2_
  refine C_seq (fun K6_ hK6_ => ?_)
  refine C_seq (fun K7_ hK7_ => ?_)
  refine C_reg ?_
  refine S_list (T_val (v := (Value.pointer (some ⟨b, 0, none⟩))) (x_move rfl) ?_)
  refine S_list (T_val (v := (Value.pointer (some ⟨b, 0, none⟩))) (by kernel_rfl) ?_)
  refine S_list (T_val (v := (Value.pointer (some ⟨b, 4, none⟩))) (by kernel_rfl) ?_)
  refine S_list (T_val (v := (Value.int .i32 (ord32 x.q.sortOrder))) (x_load1 rfl Try.underlying135 rfl (RC.cell hrc (Holds.ro_at H 0 rfl) (j := 4) (u := (Value.int .i32 (ord32 x.q.sortOrder))) (rfl))) ?_)
  refine S_list (T_val (v := (Value.bool (decide (ord32 x.q.sortOrder < 0)))) (x_bin rfl rfl rfl) ?_)
  refine S_list (T_val (v := (Value.bool (decide (ord32 x.q.sortOrder < 0)))) (x_move rfl) ?_)
  rcases Bool.eq_false_or_eq_true (decide (ord32 x.q.sortOrder < 0)) with c8_t | c8_f
  ·have c8_tp : ord32 x.q.sortOrder < 0 := of_decide_eq_true c8_t
   refine S_no (j := 5) (dj := 15) (b := true) rfl rfl (congrArg Value.bool c8_t) (by decide) ?_
   refine S_no (j := 5) (dj := 15) (b := true) rfl rfl (congrArg Value.bool c8_t) (by decide) ?_
   refine S_no (j := 5) (dj := 15) (b := true) rfl rfl (congrArg Value.bool c8_t) (by decide) ?_
   refine S_no (j := 5) (dj := 15) (b := true) rfl rfl (congrArg Value.bool c8_t) (by decide) ?_
   refine S_no (j := 5) (dj := 15) (b := true) rfl rfl (congrArg Value.bool c8_t) (by decide) ?_
   refine S_list (T_pickT (v := (Value.bool true)) (congrArg Value.bool c8_t) rfl ?_)
   refine wpList_nil ?_
   refine (X_then (hK7_ _ _ ?_))
   clear hK7_
   refine C_condT rfl ?_
   refine C_seq (fun K9_ hK9_ => ?_)
   refine C_reg ?_
   refine S_list (T_val (v := (Value.iface 133 (Value.string (ByteArray.mk #[101, 116, 99, 100, 115, 101, 114, 118, 101, 114, 58, 32, 105, 110, 118, 97, 108, 105, 100, 32, 115, 111, 114, 116, 32, 111, 112, 116, 105, 111, 110])))) (by kernel_rfl) ?_)
   refine S_list (T_val (v := (Value.iface 133 (Value.string (ByteArray.mk #[101, 116, 99, 100, 115, 101, 114, 118, 101, 114, 58, 32, 105, 110, 118, 97, 108, 105, 100, 32, 115, 111, 114, 116, 32, 111, 112, 116, 105, 111, 110])))) (x_assign rfl) ?_)
   refine wpList_nil ?_
   refine (X_then (hK9_ _ _ ?_))
   clear hK9_
   refine C_ret (X_thenR ?_)
   refine R_any (v := (Value.iface 133 (Value.string (ByteArray.mk #[101, 116, 99, 100, 115, 101, 114, 118, 101, 114, 58, 32, 105, 110, 118, 97, 108, 105, 100, 32, 115, 111, 114, 116, 32, 111, 112, 116, 105, 111, 110])))) (run_results1 rfl rfl) ?_
   exact ⟨_, _, rfl, (.inr (.inr ⟨rfl, rfl, (by have hlo1 := ord32_lo x.q.sortOrder; have hlo2 := ord32_lo x.q.sortTarget; have hhi1 := @ord32_hi x.q.sortOrder 2 (by decide) (by decide); have hhi2 := @ord32_hi x.q.sortTarget 4 (by decide) (by decide); rw [ints_length] at *; rw [ref_1 h1]; split <;> first | rfl | omega | (split <;> first | rfl | omega))⟩)), (Same.refl w), H⟩
  ·have c8_fp : ¬ (ord32 x.q.sortOrder < 0) := of_decide_eq_false c8_f
   refine S_yes (j := 5) (dj := 15) (b := false) rfl rfl (congrArg Value.bool c8_f) (T_val (v := (Value.pointer (some ⟨b, 0, none⟩))) (x_move rfl) ?_)
   refine S_yes (j := 5) (dj := 15) (b := false) rfl rfl (congrArg Value.bool c8_f) (T_val (v := (Value.pointer (some ⟨b, 0, none⟩))) (by kernel_rfl) ?_)
   refine S_yes (j := 5) (dj := 15) (b := false) rfl rfl (congrArg Value.bool c8_f) (T_val (v := (Value.pointer (some ⟨b, 4, none⟩))) (by kernel_rfl) ?_)
   refine S_yes (j := 5) (dj := 15) (b := false) rfl rfl (congrArg Value.bool c8_f) (T_val (v := (Value.int .i32 (ord32 x.q.sortOrder))) (x_load1 rfl Try.underlying135 rfl (RC.cell hrc (Holds.ro_at H 0 rfl) (j := 4) (u := (Value.int .i32 (ord32 x.q.sortOrder))) (rfl))) ?_)
   refine S_yes (j := 5) (dj := 15) (b := false) rfl rfl (congrArg Value.bool c8_f) (T_val (v := (Value.bool (decide (2 < ord32 x.q.sortOrder)))) (x_bin rfl rfl rfl) ?_)
   refine S_list (T_pickF (v := (Value.bool (decide (2 < ord32 x.q.sortOrder)))) (congrArg Value.bool c8_f) rfl ?_)
   refine wpList_nil ?_
   refine (X_then (hK7_ _ _ ?_))
   clear hK7_
   refine C_cond (b := decide (2 < ord32 x.q.sortOrder)) rfl (fun c10_t => ?_) (fun c10_f => ?_)
   ·have c10_tp : 2 < ord32 x.q.sortOrder := of_decide_eq_true c10_t
    refine C_seq (fun K11_ hK11_ => ?_)
    refine C_reg ?_
    refine S_list (T_val (v := (Value.iface 133 (Value.string (ByteArray.mk #[101, 116, 99, 100, 115, 101, 114, 118, 101, 114, 58, 32, 105, 110, 118, 97, 108, 105, 100, 32, 115, 111, 114, 116, 32, 111, 112, 116, 105, 111, 110])))) (by kernel_rfl) ?_)
    refine S_list (T_val (v := (Value.iface 133 (Value.string (ByteArray.mk #[101, 116, 99, 100, 115, 101, 114, 118, 101, 114, 58, 32, 105, 110, 118, 97, 108, 105, 100, 32, 115, 111, 114, 116, 32, 111, 112, 116, 105, 111, 110])))) (x_assign rfl) ?_)
    refine wpList_nil ?_
    refine (X_then (hK11_ _ _ ?_))
    clear hK11_
    refine C_ret (X_thenR ?_)
    refine R_any (v := (Value.iface 133 (Value.string (ByteArray.mk #[101, 116, 99, 100, 115, 101, 114, 118, 101, 114, 58, 32, 105, 110, 118, 97, 108, 105, 100, 32, 115, 111, 114, 116, 32, 111, 112, 116, 105, 111, 110])))) (run_results1 rfl rfl) ?_
    exact ⟨_, _, rfl, (.inr (.inr ⟨rfl, rfl, (by have hlo1 := ord32_lo x.q.sortOrder; have hlo2 := ord32_lo x.q.sortTarget; have hhi1 := @ord32_hi x.q.sortOrder 2 (by decide) (by decide); have hhi2 := @ord32_hi x.q.sortTarget 4 (by decide) (by decide); rw [ints_length] at *; rw [ref_1 h1]; split <;> first | rfl | omega | (split <;> first | rfl | omega))⟩)), (Same.refl w), H⟩
   ·have c10_fp : ¬ (2 < ord32 x.q.sortOrder) := of_decide_eq_false c10_f
    refine C_skip (X_then (hK6_ _ _ ?_))
    clear hK6_
    refine C_seq (fun K12_ hK12_ => ?_)
    refine C_seq (fun K13_ hK13_ => ?_)
    refine C_reg ?_
    refine S_list (T_val (v := (Value.pointer (some ⟨b, 0, none⟩))) (x_move rfl) ?_)
    refine S_list (T_val (v := (Value.pointer (some ⟨b, 0, none⟩))) (by kernel_rfl) ?_)
    refine S_list (T_val (v := (Value.pointer (some ⟨b, 5, none⟩))) (by kernel_rfl) ?_)
    refine S_list (T_val (v := (Value.int .i32 (ord32 x.q.sortTarget))) (x_load1 rfl Try.underlying137 rfl (RC.cell hrc (Holds.ro_at H 0 rfl) (j := 5) (u := (Value.int .i32 (ord32 x.q.sortTarget))) (rfl))) ?_)
    refine S_list (T_val (v := (Value.bool (decide (ord32 x.q.sortTarget < 0)))) (x_bin rfl rfl rfl) ?_)
    refine S_list (T_val (v := (Value.bool (decide (ord32 x.q.sortTarget < 0)))) (x_move rfl) ?_)
    rcases Bool.eq_false_or_eq_true (decide (ord32 x.q.sortTarget < 0)) with c14_t | c14_f
    ·have c14_tp : ord32 x.q.sortTarget < 0 := of_decide_eq_true c14_t
     refine S_no (j := 5) (dj := 28) (b := true) rfl rfl (congrArg Value.bool c14_t) (by decide) ?_
     refine S_no (j := 5) (dj := 28) (b := true) rfl rfl (congrArg Value.bool c14_t) (by decide) ?_
     refine S_no (j := 5) (dj := 28) (b := true) rfl rfl (congrArg Value.bool c14_t) (by decide) ?_
     refine S_no (j := 5) (dj := 28) (b := true) rfl rfl (congrArg Value.bool c14_t) (by decide) ?_
     refine S_no (j := 5) (dj := 28) (b := true) rfl rfl (congrArg Value.bool c14_t) (by decide) ?_
     refine S_list (T_pickT (v := (Value.bool true)) (congrArg Value.bool c14_t) rfl ?_)
     refine wpList_nil ?_
     refine (X_then (hK13_ _ _ ?_))
     clear hK13_
     refine C_condT rfl ?_
     refine C_seq (fun K15_ hK15_ => ?_)
     refine C_reg ?_
     refine S_list (T_val (v := (Value.iface 133 (Value.string (ByteArray.mk #[101, 116, 99, 100, 115, 101, 114, 118, 101, 114, 58, 32, 105, 110, 118, 97, 108, 105, 100, 32, 115, 111, 114, 116, 32, 111, 112, 116, 105, 111, 110])))) (by kernel_rfl) ?_)
     refine S_list (T_val (v := (Value.iface 133 (Value.string (ByteArray.mk #[101, 116, 99, 100, 115, 101, 114, 118, 101, 114, 58, 32, 105, 110, 118, 97, 108, 105, 100, 32, 115, 111, 114, 116, 32, 111, 112, 116, 105, 111, 110])))) (x_assign rfl) ?_)
     refine wpList_nil ?_
     refine (X_then (hK15_ _ _ ?_))
     clear hK15_
     refine C_ret (X_thenR ?_)
     refine R_any (v := (Value.iface 133 (Value.string (ByteArray.mk #[101, 116, 99, 100, 115, 101, 114, 118, 101, 114, 58, 32, 105, 110, 118, 97, 108, 105, 100, 32, 115, 111, 114, 116, 32, 111, 112, 116, 105, 111, 110])))) (run_results1 rfl rfl) ?_
     exact ⟨_, _, rfl, (.inr (.inr ⟨rfl, rfl, (by have hlo1 := ord32_lo x.q.sortOrder; have hlo2 := ord32_lo x.q.sortTarget; have hhi1 := @ord32_hi x.q.sortOrder 2 (by decide) (by decide); have hhi2 := @ord32_hi x.q.sortTarget 4 (by decide) (by decide); rw [ints_length] at *; rw [ref_1 h1]; split <;> first | rfl | omega | (split <;> first | rfl | omega))⟩)), (Same.refl w), H⟩
    ·have c14_fp : ¬ (ord32 x.q.sortTarget < 0) := of_decide_eq_false c14_f
     refine S_yes (j := 5) (dj := 28) (b := false) rfl rfl (congrArg Value.bool c14_f) (T_val (v := (Value.pointer (some ⟨b, 0, none⟩))) (x_move rfl) ?_)
     refine S_yes (j := 5) (dj := 28) (b := false) rfl rfl (congrArg Value.bool c14_f) (T_val (v := (Value.pointer (some ⟨b, 0, none⟩))) (by kernel_rfl) ?_)
     refine S_yes (j := 5) (dj := 28) (b := false) rfl rfl (congrArg Value.bool c14_f) (T_val (v := (Value.pointer (some ⟨b, 5, none⟩))) (by kernel_rfl) ?_)
     refine S_yes (j := 5) (dj := 28) (b := false) rfl rfl (congrArg Value.bool c14_f) (T_val (v := (Value.int .i32 (ord32 x.q.sortTarget))) (x_load1 rfl Try.underlying137 rfl (RC.cell hrc (Holds.ro_at H 0 rfl) (j := 5) (u := (Value.int .i32 (ord32 x.q.sortTarget))) (rfl))) ?_)
     refine S_yes (j := 5) (dj := 28) (b := false) rfl rfl (congrArg Value.bool c14_f) (T_val (v := (Value.bool (decide (4 < ord32 x.q.sortTarget)))) (x_bin rfl rfl rfl) ?_)
     refine S_list (T_pickF (v := (Value.bool (decide (4 < ord32 x.q.sortTarget)))) (congrArg Value.bool c14_f) rfl ?_)
     refine wpList_nil ?_
     refine (X_then (hK13_ _ _ ?_))
     clear hK13_
     refine C_cond (b := decide (4 < ord32 x.q.sortTarget)) rfl (fun c16_t => ?_) (fun c16_f => ?_)
     ·have c16_tp : 4 < ord32 x.q.sortTarget := of_decide_eq_true c16_t
      refine C_seq (fun K17_ hK17_ => ?_)
      refine C_reg ?_
      refine S_list (T_val (v := (Value.iface 133 (Value.string (ByteArray.mk #[101, 116, 99, 100, 115, 101, 114, 118, 101, 114, 58, 32, 105, 110, 118, 97, 108, 105, 100, 32, 115, 111, 114, 116, 32, 111, 112, 116, 105, 111, 110])))) (by kernel_rfl) ?_)
      refine S_list (T_val (v := (Value.iface 133 (Value.string (ByteArray.mk #[101, 116, 99, 100, 115, 101, 114, 118, 101, 114, 58, 32, 105, 110, 118, 97, 108, 105, 100, 32, 115, 111, 114, 116, 32, 111, 112, 116, 105, 111, 110])))) (x_assign rfl) ?_)
      refine wpList_nil ?_
      refine (X_then (hK17_ _ _ ?_))
      clear hK17_
      refine C_ret (X_thenR ?_)
      refine R_any (v := (Value.iface 133 (Value.string (ByteArray.mk #[101, 116, 99, 100, 115, 101, 114, 118, 101, 114, 58, 32, 105, 110, 118, 97, 108, 105, 100, 32, 115, 111, 114, 116, 32, 111, 112, 116, 105, 111, 110])))) (run_results1 rfl rfl) ?_
      exact ⟨_, _, rfl, (.inr (.inr ⟨rfl, rfl, (by have hlo1 := ord32_lo x.q.sortOrder; have hlo2 := ord32_lo x.q.sortTarget; have hhi1 := @ord32_hi x.q.sortOrder 2 (by decide) (by decide); have hhi2 := @ord32_hi x.q.sortTarget 4 (by decide) (by decide); rw [ints_length] at *; rw [ref_1 h1]; split <;> first | rfl | omega | (split <;> first | rfl | omega))⟩)), (Same.refl w), H⟩
     ·have c16_fp : ¬ (4 < ord32 x.q.sortTarget) := of_decide_eq_false c16_f
      refine C_skip (X_then (hK12_ _ _ ?_))
      clear hK12_
      refine C_seq (fun K18_ hK18_ => ?_)
      refine C_reg ?_
      refine S_list (T_val (v := (Value.nilIface)) (x_assign rfl) ?_)
      refine wpList_nil ?_
      refine (X_then (hK18_ _ _ ?_))
      clear hK18_
      refine C_ret ?_
      refine R_any (v := (Value.nilIface)) (run_results1 rfl rfl) ?_
      exact ⟨_, _, rfl, (.inl ⟨rfl, rfl, (by have hlo1 := ord32_lo x.q.sortOrder; have hlo2 := ord32_lo x.q.sortTarget; have hhi1 := @ord32_hi x.q.sortOrder 2 (by decide) (by decide); have hhi2 := @ord32_hi x.q.sortTarget 4 (by decide) (by decide); rw [ints_length] at *; rw [ref_1 h1]; split <;> first | rfl | omega | (split <;> first | rfl | omega))⟩), (Same.refl w), H⟩
end Go.Proofs.Ytlnihndjepjagaa
