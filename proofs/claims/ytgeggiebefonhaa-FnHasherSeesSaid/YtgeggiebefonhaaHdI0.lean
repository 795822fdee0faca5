/- Another byte, another hash: the walk. -/
import Derived.Test.YtgeggiebefonhaaHdH0
set_option linter.unusedVariables false
set_option linter.unusedSimpArgs false
namespace Go.Proofs.Ytgeggiebefonhaa
open Go Go.RowKit Gw

theorem ixor8_nat {a b : Nat} (ha : a < 256) (hb : b < 256) : ixor .u8 (a : Int) (b : Int) = ((a ^^^ b : Nat) : Int) := by
  have hx : a ^^^ b < 256 := Nat.xor_lt_two_pow (n := 8) ha hb
  unfold ixor
  have e : ((BitVec.ofInt 8 (a : Int) ^^^ BitVec.ofInt 8 (b : Int)).toNat) = a ^^^ b := by
    rw [BitVec.toNat_xor, BitVec.ofInt_natCast, BitVec.ofInt_natCast, BitVec.toNat_ofNat, BitVec.toNat_ofNat, Nat.mod_eq_of_lt (by omega), Nat.mod_eq_of_lt (by omega)]
  show IntKind.u8.wrap (((BitVec.ofInt 8 (a : Int) ^^^ BitVec.ofInt 8 (b : Int)).toNat : Nat) : Int) = _
  rw [e, wrap_u8]; omega
theorem byt_ints (u : ByteArray) : Byt (ints u) := fun b hb => by
  obtain ⟨c, _, rfl⟩ := List.mem_map.1 hb
  have := c.toNat_lt
  exact ⟨by omega, by omega⟩
theorem off_set {l : List Int} {k : Nat} {e b : Int} (hl : Byt l) (hk : l[k]? = some e) (hb : 0 ≤ b ∧ b < 256) (h0 : b ≠ 0) : Off1 l (ints (strN (l.set k (ixor .u8 e b)))) := by
  obtain ⟨hkl, hke⟩ := List.getElem?_eq_some_iff.1 hk
  have he := hl e (List.mem_of_getElem? hk)
  obtain ⟨x, rfl⟩ : ∃ x : Nat, e = x := ⟨e.toNat, by omega⟩
  obtain ⟨y, rfl⟩ : ∃ y : Nat, b = y := ⟨b.toNat, by omega⟩
  have hxy : x ^^^ y < 256 := Nat.xor_lt_two_pow (n := 8) (by omega) (by omega)
  rw [ixor8_nat (by omega) (by omega)]
  have hset : Byt (l.set k ((x ^^^ y : Nat) : Int)) := fun c hc => by
    rcases List.mem_or_eq_of_mem_set hc with h | h
    · exact hl c h
    · rw [h]; omega
  rw [ints_strN hset]
  refine ⟨l.take k, l.drop (k + 1), x, ((x ^^^ y : Nat) : Int), ?_, ?_, he, by omega, ?_⟩
  · rw [← hke, List.getElem_cons_drop, List.take_append_drop]
  · rw [List.set_eq_take_append_cons_drop, if_pos hkl]
  · intro hh
    have h2 : x = x ^^^ y := by omega
    have h3 : x ^^^ x = x ^^^ (x ^^^ y) := congrArg (x ^^^ ·) h2
    rw [← Nat.xor_assoc, Nat.xor_self, Nat.zero_xor] at h3
    omega

theorem bytesV_set (l : List Int) (k : Nat) (e : Int) : List.set (bytesV l) k (Value.int .u8 e) = bytesV (List.set l k e) := by simp [bytesV]

theorem set_ok {p : RW → Prop} {L : List RW} {i : Nat} {y : RW} (h : ∀ x ∈ L, p x) (hy : p y) : ∀ x ∈ L.set i y, p x := fun x hx => by
  rcases List.mem_or_eq_of_mem_set hx with h1 | h1
  · exact h x h1
  · rw [h1]; exact hy

set_option maxHeartbeats 1000000 in
theorem fnHasherSees (R : HP) (compact rev : Int) (vk v : Value) (at_ place by_ : Int) (K : List RV) (L : List RW) (hKs : RS R 2 vk K.length (K.flatMap RV.cells)) (hL : RS R 9 v L.length (L.flatMap RW.cells)) (hW : ∀ x ∈ L, x.rev_Main < 9223372036854775808 ∧ x.rev_Sub < 9223372036854775808) (ha : at_ < 9223372036854775808) (hp : place < 9223372036854775808) (hb0 : 0 ≤ by_) (hb1 : by_ < 256) :
    Tri Try.prog 4 #[(Value.int .i64 compact), (Value.int .i64 rev), vk, v, (Value.int .i64 at_), (Value.int .i64 place), (Value.int .u8 by_)] R [] (fun v__ post__ => v__ = (Value.bool true) ∧ post__ = []) := by
  refine Tri.into (n := 121) (al := [(Value.int .i64 compact), (Value.int .i64 rev), vk, v, (Value.int .i64 at_), (Value.int .i64 place), (Value.int .u8 by_)]) Try.func4 rfl Try.ntmps4 rfl rfl fun w F H => ?_
  replace H : Holds w (ro R :: F) := H
  refine C_seq (fun K1_ hK1_ => ?_)
  refine C_reg ?_
  refine S_list (T_val (v := (Value.bool false)) (x_assign rfl) ?_)
  refine wpList_nil ?_
  refine (X_then (hK1_ _ _ ?_))
  clear hK1_
  refine C_seq (fun K2_ hK2_ => ?_)
  refine C_seq (fun K3_ hK3_ => ?_)
  refine C_reg ?_
  refine S_list (T_val (v := vk) (x_move rfl) ?_)
  refine S_list (T_val (v := (Value.int .i64 (K.length : Int))) (x_lenRS rfl hKs Try.underlying33) ?_)
  refine S_list (T_val (v := (Value.bool (decide (2147483647 < (K.length : Int))))) (x_bin rfl rfl rfl) ?_)
  refine S_list (T_val (v := (Value.bool (decide (2147483647 < (K.length : Int))))) (x_move rfl) ?_)
  rcases Bool.eq_false_or_eq_true (decide (2147483647 < (K.length : Int))) with c4_t | c4_f
  · have c4_tp : 2147483647 < (K.length : Int) := of_decide_eq_true c4_t
    refine S_no (j := 3) (dj := 22) (b := true) rfl rfl (congrArg Value.bool c4_t) (by decide) ?_
    refine S_no (j := 3) (dj := 22) (b := true) rfl rfl (congrArg Value.bool c4_t) (by decide) ?_
    refine S_no (j := 3) (dj := 22) (b := true) rfl rfl (congrArg Value.bool c4_t) (by decide) ?_
    refine S_list (T_pickT (v := (Value.bool true)) (congrArg Value.bool c4_t) rfl ?_)
    refine wpList_nil ?_
    refine (X_then (hK3_ _ _ ?_))
    clear hK3_
    refine C_condT rfl ?_
    refine C_seq (fun K5_ hK5_ => ?_)
    refine C_reg ?_
    refine S_list (T_val (v := (Value.bool true)) (x_assign rfl) ?_)
    refine wpList_nil ?_
    refine (X_then (hK5_ _ _ ?_))
    clear hK5_
    refine C_ret (X_thenR ?_)
    refine R_any (v := (Value.bool true)) (run_results1 rfl rfl) ?_
    exact ⟨_, [], rfl, ⟨rfl, rfl⟩, (Same.refl w), H⟩
  · have c4_fp : ¬ (2147483647 < (K.length : Int)) := of_decide_eq_false c4_f
    refine S_yes (j := 3) (dj := 22) (b := false) rfl rfl (congrArg Value.bool c4_f) (T_val (v := v) (x_move rfl) ?_)
    refine S_yes (j := 3) (dj := 22) (b := false) rfl rfl (congrArg Value.bool c4_f) (T_call (al := [v]) (pre := []) (F := F) rfl rfl cb11 (lFits31 R v L hL) H ?_)
    rintro v6_ p12_ w9_ ⟨b7_, rfl, rfl, he8_⟩ S11_ H10_
    replace H10_ : Holds w9_ (ro R :: F) := H10_
    have S13_ := Same.trans (Same.refl w) S11_
    refine S_yes (j := 3) (dj := 22) (b := false) rfl rfl (congrArg Value.bool c4_f) (T_val (v := (Value.bool (!b7_))) (x_not rfl) ?_)
    refine S_list (T_pickF (v := (Value.bool (!b7_))) (congrArg Value.bool c4_f) rfl ?_)
    refine wpList_nil ?_
    refine (X_then (hK3_ _ _ ?_))
    clear hK3_
    refine C_cond (b := !b7_) rfl (fun c14_t => ?_) (fun c14_f => ?_)
    · skip
      refine C_seq (fun K15_ hK15_ => ?_)
      refine C_reg ?_
      refine S_list (T_val (v := (Value.bool true)) (x_assign rfl) ?_)
      refine wpList_nil ?_
      refine (X_then (hK15_ _ _ ?_))
      clear hK15_
      refine C_ret (X_thenR ?_)
      refine R_any (v := (Value.bool true)) (run_results1 rfl rfl) ?_
      exact ⟨_, [], rfl, ⟨rfl, rfl⟩, S13_, H10_⟩
    · skip
      refine C_skip (X_then (hK2_ _ _ ?_))
      clear hK2_
      refine C_seq (fun K16_ hK16_ => ?_)
      refine C_seq (fun K17_ hK17_ => ?_)
      refine C_reg ?_
      refine S_list (T_val (v := (Value.int .i64 compact)) (x_move rfl) ?_)
      refine S_list (T_val (v := (Value.int .i64 rev)) (x_move rfl) ?_)
      refine S_list (T_val (v := vk) (x_move rfl) ?_)
      refine S_list (T_val (v := v) (x_move rfl) ?_)
      refine S_list (T_call (al := [(Value.int .i64 compact), (Value.int .i64 rev), vk, v]) (pre := []) (F := F) rfl rfl cb12 (lRoHash R compact rev vk v K L hKs hL) H10_ ?_)
      rintro v18_ p24_ w21_ ⟨b19_, rfl, rfl, he20_⟩ S23_ H22_
      replace H22_ : Holds w21_ (ro R :: F) := H22_
      have S25_ := Same.trans S13_ S23_
      refine S_list (T_val (v := (Value.bool (!b19_))) (x_not rfl) ?_)
      refine S_list (T_val (v := (Value.bool (!b19_))) (x_move rfl) ?_)
      rcases Bool.eq_false_or_eq_true (!b19_) with c26_t | c26_f
      · skip
        refine S_no (j := 6) (dj := 33) (b := true) rfl rfl (congrArg Value.bool c26_t) (by decide) ?_
        refine S_no (j := 6) (dj := 33) (b := true) rfl rfl (congrArg Value.bool c26_t) (by decide) ?_
        refine S_no (j := 6) (dj := 33) (b := true) rfl rfl (congrArg Value.bool c26_t) (by decide) ?_
        refine S_list (T_pickT (v := (Value.bool true)) (congrArg Value.bool c26_t) rfl ?_)
        refine S_list (T_val (v := (Value.bool true)) (x_move rfl) ?_)
        refine S_no (j := 11) (dj := 38) (b := true) rfl rfl rfl (by decide) ?_
        refine S_no (j := 11) (dj := 38) (b := true) rfl rfl rfl (by decide) ?_
        refine S_list (T_pickT (v := (Value.bool true)) rfl rfl ?_)
        refine S_list (T_val (v := (Value.bool true)) (x_move rfl) ?_)
        refine S_no (j := 15) (dj := 42) (b := true) rfl rfl rfl (by decide) ?_
        refine S_no (j := 15) (dj := 42) (b := true) rfl rfl rfl (by decide) ?_
        refine S_list (T_pickT (v := (Value.bool true)) rfl rfl ?_)
        refine S_list (T_val (v := (Value.bool true)) (x_move rfl) ?_)
        refine S_no (j := 19) (dj := 46) (b := true) rfl rfl rfl (by decide) ?_
        refine S_no (j := 19) (dj := 46) (b := true) rfl rfl rfl (by decide) ?_
        refine S_list (T_pickT (v := (Value.bool true)) rfl rfl ?_)
        refine wpList_nil ?_
        refine (X_then (hK17_ _ _ ?_))
        clear hK17_
        refine C_condT rfl ?_
        refine C_seq (fun K27_ hK27_ => ?_)
        refine C_reg ?_
        refine S_list (T_call (al := []) (pre := []) (F := F) rfl rfl cb13 (lTwo R) H22_ ?_)
        rintro v28_ p32_ w29_ ⟨rfl, rfl⟩ S31_ H30_
        replace H30_ : Holds w29_ (ro R :: F) := H30_
        have S33_ := Same.trans S25_ S31_
        refine S_list (T_val (v := (Value.bool true)) (x_assign rfl) ?_)
        refine wpList_nil ?_
        refine (X_then (hK27_ _ _ ?_))
        clear hK27_
        refine C_ret (X_thenR ?_)
        refine R_any (v := (Value.bool true)) (run_results1 rfl rfl) ?_
        exact ⟨_, [], rfl, ⟨rfl, rfl⟩, S33_, H30_⟩
      · skip
        refine S_yes (j := 6) (dj := 33) (b := false) rfl rfl (congrArg Value.bool c26_f) (T_val (v := v) (x_move rfl) ?_)
        refine S_yes (j := 6) (dj := 33) (b := false) rfl rfl (congrArg Value.bool c26_f) (T_val (v := (Value.int .i64 (L.length : Int))) (x_lenRS rfl hL Try.underlying34) ?_)
        refine S_yes (j := 6) (dj := 33) (b := false) rfl rfl (congrArg Value.bool c26_f) (T_val (v := (Value.bool (decide ((L.length : Int) = 0)))) (x_bin rfl rfl rfl) ?_)
        refine S_list (T_pickF (v := (Value.bool (decide ((L.length : Int) = 0)))) (congrArg Value.bool c26_f) rfl ?_)
        refine S_list (T_val (v := (Value.bool (decide ((L.length : Int) = 0)))) (x_move rfl) ?_)
        rcases Bool.eq_false_or_eq_true (decide ((L.length : Int) = 0)) with c34_t | c34_f
        · have c34_tp : (L.length : Int) = 0 := of_decide_eq_true c34_t
          refine S_no (j := 11) (dj := 38) (b := true) rfl rfl (congrArg Value.bool c34_t) (by decide) ?_
          refine S_no (j := 11) (dj := 38) (b := true) rfl rfl (congrArg Value.bool c34_t) (by decide) ?_
          refine S_list (T_pickT (v := (Value.bool true)) (congrArg Value.bool c34_t) rfl ?_)
          refine S_list (T_val (v := (Value.bool true)) (x_move rfl) ?_)
          refine S_no (j := 15) (dj := 42) (b := true) rfl rfl rfl (by decide) ?_
          refine S_no (j := 15) (dj := 42) (b := true) rfl rfl rfl (by decide) ?_
          refine S_list (T_pickT (v := (Value.bool true)) rfl rfl ?_)
          refine S_list (T_val (v := (Value.bool true)) (x_move rfl) ?_)
          refine S_no (j := 19) (dj := 46) (b := true) rfl rfl rfl (by decide) ?_
          refine S_no (j := 19) (dj := 46) (b := true) rfl rfl rfl (by decide) ?_
          refine S_list (T_pickT (v := (Value.bool true)) rfl rfl ?_)
          refine wpList_nil ?_
          refine (X_then (hK17_ _ _ ?_))
          clear hK17_
          refine C_condT rfl ?_
          refine C_seq (fun K35_ hK35_ => ?_)
          refine C_reg ?_
          refine S_list (T_call (al := []) (pre := []) (F := F) rfl rfl cb13 (lTwo R) H22_ ?_)
          rintro v36_ p40_ w37_ ⟨rfl, rfl⟩ S39_ H38_
          replace H38_ : Holds w37_ (ro R :: F) := H38_
          have S41_ := Same.trans S25_ S39_
          refine S_list (T_val (v := (Value.bool true)) (x_assign rfl) ?_)
          refine wpList_nil ?_
          refine (X_then (hK35_ _ _ ?_))
          clear hK35_
          refine C_ret (X_thenR ?_)
          refine R_any (v := (Value.bool true)) (run_results1 rfl rfl) ?_
          exact ⟨_, [], rfl, ⟨rfl, rfl⟩, S41_, H38_⟩
        · have c34_fp : ¬ ((L.length : Int) = 0) := of_decide_eq_false c34_f
          refine S_yes (j := 11) (dj := 38) (b := false) rfl rfl (congrArg Value.bool c34_f) (T_val (v := (Value.int .i64 at_)) (x_move rfl) ?_)
          refine S_yes (j := 11) (dj := 38) (b := false) rfl rfl (congrArg Value.bool c34_f) (T_val (v := (Value.bool (decide (at_ < 0)))) (x_bin rfl rfl rfl) ?_)
          refine S_list (T_pickF (v := (Value.bool (decide (at_ < 0)))) (congrArg Value.bool c34_f) rfl ?_)
          refine S_list (T_val (v := (Value.bool (decide (at_ < 0)))) (x_move rfl) ?_)
          rcases Bool.eq_false_or_eq_true (decide (at_ < 0)) with c42_t | c42_f
          · have c42_tp : at_ < 0 := of_decide_eq_true c42_t
            refine S_no (j := 15) (dj := 42) (b := true) rfl rfl (congrArg Value.bool c42_t) (by decide) ?_
            refine S_no (j := 15) (dj := 42) (b := true) rfl rfl (congrArg Value.bool c42_t) (by decide) ?_
            refine S_list (T_pickT (v := (Value.bool true)) (congrArg Value.bool c42_t) rfl ?_)
            refine S_list (T_val (v := (Value.bool true)) (x_move rfl) ?_)
            refine S_no (j := 19) (dj := 46) (b := true) rfl rfl rfl (by decide) ?_
            refine S_no (j := 19) (dj := 46) (b := true) rfl rfl rfl (by decide) ?_
            refine S_list (T_pickT (v := (Value.bool true)) rfl rfl ?_)
            refine wpList_nil ?_
            refine (X_then (hK17_ _ _ ?_))
            clear hK17_
            refine C_condT rfl ?_
            refine C_seq (fun K43_ hK43_ => ?_)
            refine C_reg ?_
            refine S_list (T_call (al := []) (pre := []) (F := F) rfl rfl cb13 (lTwo R) H22_ ?_)
            rintro v44_ p48_ w45_ ⟨rfl, rfl⟩ S47_ H46_
            replace H46_ : Holds w45_ (ro R :: F) := H46_
            have S49_ := Same.trans S25_ S47_
            refine S_list (T_val (v := (Value.bool true)) (x_assign rfl) ?_)
            refine wpList_nil ?_
            refine (X_then (hK43_ _ _ ?_))
            clear hK43_
            refine C_ret (X_thenR ?_)
            refine R_any (v := (Value.bool true)) (run_results1 rfl rfl) ?_
            exact ⟨_, [], rfl, ⟨rfl, rfl⟩, S49_, H46_⟩
          · have c42_fp : ¬ (at_ < 0) := of_decide_eq_false c42_f
            refine S_yes (j := 15) (dj := 42) (b := false) rfl rfl (congrArg Value.bool c42_f) (T_val (v := (Value.int .i64 place)) (x_move rfl) ?_)
            refine S_yes (j := 15) (dj := 42) (b := false) rfl rfl (congrArg Value.bool c42_f) (T_val (v := (Value.bool (decide (place < 0)))) (x_bin rfl rfl rfl) ?_)
            refine S_list (T_pickF (v := (Value.bool (decide (place < 0)))) (congrArg Value.bool c42_f) rfl ?_)
            refine S_list (T_val (v := (Value.bool (decide (place < 0)))) (x_move rfl) ?_)
            rcases Bool.eq_false_or_eq_true (decide (place < 0)) with c50_t | c50_f
            · have c50_tp : place < 0 := of_decide_eq_true c50_t
              refine S_no (j := 19) (dj := 46) (b := true) rfl rfl (congrArg Value.bool c50_t) (by decide) ?_
              refine S_no (j := 19) (dj := 46) (b := true) rfl rfl (congrArg Value.bool c50_t) (by decide) ?_
              refine S_list (T_pickT (v := (Value.bool true)) (congrArg Value.bool c50_t) rfl ?_)
              refine wpList_nil ?_
              refine (X_then (hK17_ _ _ ?_))
              clear hK17_
              refine C_condT rfl ?_
              refine C_seq (fun K51_ hK51_ => ?_)
              refine C_reg ?_
              refine S_list (T_call (al := []) (pre := []) (F := F) rfl rfl cb13 (lTwo R) H22_ ?_)
              rintro v52_ p56_ w53_ ⟨rfl, rfl⟩ S55_ H54_
              replace H54_ : Holds w53_ (ro R :: F) := H54_
              have S57_ := Same.trans S25_ S55_
              refine S_list (T_val (v := (Value.bool true)) (x_assign rfl) ?_)
              refine wpList_nil ?_
              refine (X_then (hK51_ _ _ ?_))
              clear hK51_
              refine C_ret (X_thenR ?_)
              refine R_any (v := (Value.bool true)) (run_results1 rfl rfl) ?_
              exact ⟨_, [], rfl, ⟨rfl, rfl⟩, S57_, H54_⟩
            · have c50_fp : ¬ (place < 0) := of_decide_eq_false c50_f
              refine S_yes (j := 19) (dj := 46) (b := false) rfl rfl (congrArg Value.bool c50_f) (T_val (v := (Value.int .u8 by_)) (x_move rfl) ?_)
              refine S_yes (j := 19) (dj := 46) (b := false) rfl rfl (congrArg Value.bool c50_f) (T_val (v := (Value.bool (decide (by_ = 0)))) (x_bin rfl rfl rfl) ?_)
              refine S_list (T_pickF (v := (Value.bool (decide (by_ = 0)))) (congrArg Value.bool c50_f) rfl ?_)
              refine wpList_nil ?_
              refine (X_then (hK17_ _ _ ?_))
              clear hK17_
              refine C_cond (b := decide (by_ = 0)) rfl (fun c58_t => ?_) (fun c58_f => ?_)
              · have c58_tp : by_ = 0 := of_decide_eq_true c58_t
                refine C_seq (fun K59_ hK59_ => ?_)
                refine C_reg ?_
                refine S_list (T_call (al := []) (pre := []) (F := F) rfl rfl cb13 (lTwo R) H22_ ?_)
                rintro v60_ p64_ w61_ ⟨rfl, rfl⟩ S63_ H62_
                replace H62_ : Holds w61_ (ro R :: F) := H62_
                have S65_ := Same.trans S25_ S63_
                refine S_list (T_val (v := (Value.bool true)) (x_assign rfl) ?_)
                refine wpList_nil ?_
                refine (X_then (hK59_ _ _ ?_))
                clear hK59_
                refine C_ret (X_thenR ?_)
                refine R_any (v := (Value.bool true)) (run_results1 rfl rfl) ?_
                exact ⟨_, [], rfl, ⟨rfl, rfl⟩, S65_, H62_⟩
              · have c58_fp : ¬ (by_ = 0) := of_decide_eq_false c58_f
                refine C_skip (X_then (hK16_ _ _ ?_))
                clear hK16_
                refine C_seq (fun K66_ hK66_ => ?_)
                refine C_reg ?_
                refine S_list (T_val (v := (Value.int .i64 at_)) (x_move rfl) ?_)
                refine S_list (T_val (v := v) (x_move rfl) ?_)
                refine S_list (T_val (v := (Value.int .i64 (L.length : Int))) (x_lenRS rfl hL Try.underlying34) ?_)
                obtain ⟨hc0, hc1, hr0, hr1, hK2, hL2, hG⟩ := he20_ (by simp_all)
                obtain ⟨iN, hiN⟩ : ∃ i, at_.toNat % L.length = i := ⟨_, rfl⟩
                have hiL : iN < L.length := hiN ▸ Nat.mod_lt _ (by omega)
                refine S_list (T_val (v := (Value.int .i64 (iN : Int))) (x_bin rfl rfl (ib_remN (x := at_.toNat) (y := L.length) (r := iN) (by omega) (by omega) (by omega) (by omega) hiN)) ?_)
                refine S_list (T_val (v := (Value.int .i64 (iN : Int))) (x_assign rfl) ?_)
                refine wpList_nil ?_
                refine (X_then (hK66_ _ _ ?_))
                clear hK66_
                refine C_seq (fun K67_ hK67_ => ?_)
                refine C_reg ?_
                refine S_list (T_val (v := v) (x_move rfl) ?_)
                refine S_list (T_val (v := (Value.int .i64 (iN : Int))) (x_move rfl) ?_)
                obtain ⟨x68_, hx69_, hm70_⟩ := elem_at L iN (by first | omega | exact Nat.mod_lt _ (by omega) | (simp only [ints_length]; exact Nat.mod_lt _ (by omega)))
                have hp71_ := hW x68_ hm70_
                have hgx_ := hG x68_ hm70_
                refine S_list (T_val (v := (Value.pointer (some ⟨(sb v), so v + (iN * 9 + 0), none⟩))) (x_idxRS (v := v) rfl hL rfl Try.underlying34 z42 (by omega) (by omega) (by omega : _ = iN) rfl) ?_)
                refine S_list (T_val (v := (Value.agg #[(Value.int .i64 x68_.rev_Main), (Value.int .i64 x68_.rev_Sub), (Value.bool x68_.gone), (Value.string x68_.kV_Key), (Value.string x68_.kV_Value), (Value.int .i64 x68_.kV_Create), (Value.int .i64 x68_.kV_Mod), (Value.int .i64 x68_.kV_Version), (Value.int .i64 x68_.kV_Lease)])) (x_loadN (vs := [(Value.int .i64 x68_.rev_Main), (Value.int .i64 x68_.rev_Sub), (Value.bool x68_.gone), (Value.string x68_.kV_Key), (Value.string x68_.kV_Value), (Value.int .i64 x68_.kV_Create), (Value.int .i64 x68_.kV_Mod), (Value.int .i64 x68_.kV_Version), (Value.int .i64 x68_.kV_Lease)]) rfl Try.underlying42 rfl z42 rfl (RC.cells (RS.rc hL) (Holds.ro_at H22_ 0 rfl) (iN * 9 + 0) (fm_cells RW.len hx69_ (i := 0) rfl))) ?_)
                refine S_list (T_alloc z42 H22_ ?_)
                intro b72_ w73_ S75_ H74_
                replace H74_ : Holds w73_ (cl b72_ 42 [(Value.int .i64 0), (Value.int .i64 0), (Value.bool false), (Value.string ByteArray.empty), (Value.string ByteArray.empty), (Value.int .i64 0), (Value.int .i64 0), (Value.int .i64 0), (Value.int .i64 0)] :: ro R :: F) := H74_
                have S76_ := Same.trans S25_ S75_
                refine S_list0 (T_storeN (vs := [(Value.int .i64 x68_.rev_Main), (Value.int .i64 x68_.rev_Sub), (Value.bool x68_.gone), (Value.string x68_.kV_Key), (Value.string x68_.kV_Value), (Value.int .i64 x68_.kV_Create), (Value.int .i64 x68_.kV_Mod), (Value.int .i64 x68_.kV_Version), (Value.int .i64 x68_.kV_Lease)]) rfl rfl z42 rfl (by simp [Value.oneCell']) H74_ 0 rfl (Nat.le_of_ble_eq_true (by rfl)) ?_)
                intro w77_ S79_ H78_
                replace H78_ : Holds w77_ (cl b72_ 42 [(Value.int .i64 x68_.rev_Main), (Value.int .i64 x68_.rev_Sub), (Value.bool x68_.gone), (Value.string x68_.kV_Key), (Value.string x68_.kV_Value), (Value.int .i64 x68_.kV_Create), (Value.int .i64 x68_.kV_Mod), (Value.int .i64 x68_.kV_Version), (Value.int .i64 x68_.kV_Lease)] :: ro R :: F) := H78_
                have S80_ := Same.trans S76_ S79_
                refine wpList_nil ?_
                refine (X_then (hK67_ _ _ ?_))
                clear hK67_
                refine C_seq (fun K81_ hK81_ => ?_)
                refine C_reg ?_
                refine S_list (T_val (v := (Value.pointer (some ⟨b72_, 3, none⟩))) (by kernel_rfl) ?_)
                refine S_list (T_val (v := (Value.pointer (some ⟨b72_, 4, none⟩))) (by kernel_rfl) ?_)
                refine S_list (T_val (v := (Value.string x68_.kV_Value)) (x_load1 rfl Try.underlying9 rfl ((Holds.rd H78_ 0 rfl) 4 (Value.string x68_.kV_Value) rfl)) ?_)
                refine S_list (T_s2b rfl Try.underlying9 Try.underlying43 Try.underlying5 H78_ ?_)
                intro b82_ cp83_ w84_ S86_ hc87_ H85_
                have S88_ := Same.trans S80_ S86_
                have H89_ : Holds w84_ (sl 5 1 (Value.slice (some ⟨b82_, 0, none⟩) x68_.kV_Value.size cp83_) x68_.kV_Value.size (bytesV (ints x68_.kV_Value)) :: cl b72_ 42 [(Value.int .i64 x68_.rev_Main), (Value.int .i64 x68_.rev_Sub), (Value.bool x68_.gone), (Value.string x68_.kV_Key), (Value.string x68_.kV_Value), (Value.int .i64 x68_.kV_Create), (Value.int .i64 x68_.kV_Mod), (Value.int .i64 x68_.kV_Version), (Value.int .i64 x68_.kV_Lease)] :: ro R :: F) := cast2 (P := fun (c__ : List Value) (k__ : Nat) => Holds w84_ (sl 5 1 (Value.slice (some ⟨b82_, 0, none⟩) x68_.kV_Value.size cp83_) k__ c__ :: cl b72_ 42 [(Value.int .i64 x68_.rev_Main), (Value.int .i64 x68_.rev_Sub), (Value.bool x68_.gone), (Value.string x68_.kV_Key), (Value.string x68_.kV_Value), (Value.int .i64 x68_.kV_Create), (Value.int .i64 x68_.kV_Mod), (Value.int .i64 x68_.kV_Version), (Value.int .i64 x68_.kV_Lease)] :: ro R :: F)) (byteCells_bytesV _ : byteCells x68_.kV_Value = bytesV (ints x68_.kV_Value)) (rfl : x68_.kV_Value.size = x68_.kV_Value.size) H85_
                have H90_ : Holds w84_ (sl 5 1 (Value.slice (some ⟨b82_, 0, none⟩) x68_.kV_Value.size cp83_) (List.length (ints x68_.kV_Value)) (bytesV (ints x68_.kV_Value)) :: cl b72_ 42 [(Value.int .i64 x68_.rev_Main), (Value.int .i64 x68_.rev_Sub), (Value.bool x68_.gone), (Value.string x68_.kV_Key), (Value.string x68_.kV_Value), (Value.int .i64 x68_.kV_Create), (Value.int .i64 x68_.kV_Mod), (Value.int .i64 x68_.kV_Version), (Value.int .i64 x68_.kV_Lease)] :: ro R :: F) := cast2 (P := fun (c__ : List Value) (k__ : Nat) => Holds w84_ (sl 5 1 (Value.slice (some ⟨b82_, 0, none⟩) x68_.kV_Value.size cp83_) k__ c__ :: cl b72_ 42 [(Value.int .i64 x68_.rev_Main), (Value.int .i64 x68_.rev_Sub), (Value.bool x68_.gone), (Value.string x68_.kV_Key), (Value.string x68_.kV_Value), (Value.int .i64 x68_.kV_Create), (Value.int .i64 x68_.kV_Mod), (Value.int .i64 x68_.kV_Version), (Value.int .i64 x68_.kV_Lease)] :: ro R :: F)) (rfl : bytesV (ints x68_.kV_Value) = bytesV (ints x68_.kV_Value)) ((ints_length _).symm : x68_.kV_Value.size = (List.length (ints x68_.kV_Value))) H89_
                refine S_list (T_val (v := (Value.slice (some ⟨b82_, 0, none⟩) x68_.kV_Value.size cp83_)) (x_assign rfl) ?_)
                refine wpList_nil ?_
                refine (X_then (hK81_ _ _ ?_))
                clear hK81_
                refine C_seq (fun K91_ hK91_ => ?_)
                refine C_seq (fun K92_ hK92_ => ?_)
                refine C_reg ?_
                refine S_list (T_val (v := (Value.pointer (some ⟨b72_, 2, none⟩))) (by kernel_rfl) ?_)
                refine S_list (T_val (v := (Value.bool x68_.gone)) (x_load1 rfl Try.underlying4 rfl ((Holds.rd H90_ 1 rfl) 2 (Value.bool x68_.gone) rfl)) ?_)
                refine wpList_nil ?_
                refine (X_then (hK92_ _ _ ?_))
                clear hK92_
                refine C_cond (b := x68_.gone) rfl (fun c93_t => ?_) (fun c93_f => ?_)
                · skip
                  refine C_reg ?_
                  refine S_list (T_val (v := (Value.pointer (some ⟨b72_, 3, none⟩))) (by kernel_rfl) ?_)
                  refine S_list (T_val (v := (Value.pointer (some ⟨b72_, 3, none⟩))) (by kernel_rfl) ?_)
                  refine S_list (T_val (v := (Value.string x68_.kV_Key)) (x_load1 rfl Try.underlying9 rfl ((Holds.rd H90_ 1 rfl) 3 (Value.string x68_.kV_Key) rfl)) ?_)
                  refine S_list (T_s2b rfl Try.underlying9 Try.underlying43 Try.underlying5 H90_ ?_)
                  intro b94_ cp95_ w96_ S98_ hc99_ H97_
                  have S100_ := Same.trans S88_ S98_
                  have H101_ : Holds w96_ (sl 5 1 (Value.slice (some ⟨b94_, 0, none⟩) x68_.kV_Key.size cp95_) x68_.kV_Key.size (bytesV (ints x68_.kV_Key)) :: sl 5 1 (Value.slice (some ⟨b82_, 0, none⟩) x68_.kV_Value.size cp83_) (List.length (ints x68_.kV_Value)) (bytesV (ints x68_.kV_Value)) :: cl b72_ 42 [(Value.int .i64 x68_.rev_Main), (Value.int .i64 x68_.rev_Sub), (Value.bool x68_.gone), (Value.string x68_.kV_Key), (Value.string x68_.kV_Value), (Value.int .i64 x68_.kV_Create), (Value.int .i64 x68_.kV_Mod), (Value.int .i64 x68_.kV_Version), (Value.int .i64 x68_.kV_Lease)] :: ro R :: F) := cast2 (P := fun (c__ : List Value) (k__ : Nat) => Holds w96_ (sl 5 1 (Value.slice (some ⟨b94_, 0, none⟩) x68_.kV_Key.size cp95_) k__ c__ :: sl 5 1 (Value.slice (some ⟨b82_, 0, none⟩) x68_.kV_Value.size cp83_) (List.length (ints x68_.kV_Value)) (bytesV (ints x68_.kV_Value)) :: cl b72_ 42 [(Value.int .i64 x68_.rev_Main), (Value.int .i64 x68_.rev_Sub), (Value.bool x68_.gone), (Value.string x68_.kV_Key), (Value.string x68_.kV_Value), (Value.int .i64 x68_.kV_Create), (Value.int .i64 x68_.kV_Mod), (Value.int .i64 x68_.kV_Version), (Value.int .i64 x68_.kV_Lease)] :: ro R :: F)) (byteCells_bytesV _ : byteCells x68_.kV_Key = bytesV (ints x68_.kV_Key)) (rfl : x68_.kV_Key.size = x68_.kV_Key.size) H97_
                  have H102_ : Holds w96_ (sl 5 1 (Value.slice (some ⟨b94_, 0, none⟩) x68_.kV_Key.size cp95_) (List.length (ints x68_.kV_Key)) (bytesV (ints x68_.kV_Key)) :: sl 5 1 (Value.slice (some ⟨b82_, 0, none⟩) x68_.kV_Value.size cp83_) (List.length (ints x68_.kV_Value)) (bytesV (ints x68_.kV_Value)) :: cl b72_ 42 [(Value.int .i64 x68_.rev_Main), (Value.int .i64 x68_.rev_Sub), (Value.bool x68_.gone), (Value.string x68_.kV_Key), (Value.string x68_.kV_Value), (Value.int .i64 x68_.kV_Create), (Value.int .i64 x68_.kV_Mod), (Value.int .i64 x68_.kV_Version), (Value.int .i64 x68_.kV_Lease)] :: ro R :: F) := cast2 (P := fun (c__ : List Value) (k__ : Nat) => Holds w96_ (sl 5 1 (Value.slice (some ⟨b94_, 0, none⟩) x68_.kV_Key.size cp95_) k__ c__ :: sl 5 1 (Value.slice (some ⟨b82_, 0, none⟩) x68_.kV_Value.size cp83_) (List.length (ints x68_.kV_Value)) (bytesV (ints x68_.kV_Value)) :: cl b72_ 42 [(Value.int .i64 x68_.rev_Main), (Value.int .i64 x68_.rev_Sub), (Value.bool x68_.gone), (Value.string x68_.kV_Key), (Value.string x68_.kV_Value), (Value.int .i64 x68_.kV_Create), (Value.int .i64 x68_.kV_Mod), (Value.int .i64 x68_.kV_Version), (Value.int .i64 x68_.kV_Lease)] :: ro R :: F)) (rfl : bytesV (ints x68_.kV_Key) = bytesV (ints x68_.kV_Key)) ((ints_length _).symm : x68_.kV_Key.size = (List.length (ints x68_.kV_Key))) H101_
                  refine S_list (T_val (v := (Value.slice (some ⟨b94_, 0, none⟩) x68_.kV_Key.size cp95_)) (x_assign rfl) ?_)
                  refine wpList_nil ?_
                  refine (X_then (hK91_ _ _ ?_))
                  clear hK91_
                  refine C_seq (fun K103_ hK103_ => ?_)
                  refine C_seq (fun K104_ hK104_ => ?_)
                  refine C_reg ?_
                  refine S_list (T_val (v := (Value.slice (some ⟨b94_, 0, none⟩) x68_.kV_Key.size cp95_)) (x_move rfl) ?_)
                  refine S_list (T_val (v := (Value.int .i64 (x68_.kV_Key.size : Int))) (x_lenS rfl Try.underlying43) ?_)
                  refine S_list (T_val (v := (Value.bool (decide ((x68_.kV_Key.size : Int) = 0)))) (x_bin rfl rfl rfl) ?_)
                  refine S_list (T_val (v := (Value.bool (decide ((x68_.kV_Key.size : Int) = 0)))) (x_move rfl) ?_)
                  rcases Bool.eq_false_or_eq_true (decide ((x68_.kV_Key.size : Int) = 0)) with c105_t | c105_f
                  · have c105_tp : (x68_.kV_Key.size : Int) = 0 := of_decide_eq_true c105_t
                    refine S_no (j := 3) (dj := 72) (b := true) rfl rfl (congrArg Value.bool c105_t) (by decide) ?_
                    refine S_no (j := 3) (dj := 72) (b := true) rfl rfl (congrArg Value.bool c105_t) (by decide) ?_
                    refine S_no (j := 3) (dj := 72) (b := true) rfl rfl (congrArg Value.bool c105_t) (by decide) ?_
                    refine S_no (j := 3) (dj := 72) (b := true) rfl rfl (congrArg Value.bool c105_t) (by decide) ?_
                    refine S_no (j := 3) (dj := 72) (b := true) rfl rfl (congrArg Value.bool c105_t) (by decide) ?_
                    refine S_no (j := 3) (dj := 72) (b := true) rfl rfl (congrArg Value.bool c105_t) (by decide) ?_
                    refine S_list (T_pickT (v := (Value.bool true)) (congrArg Value.bool c105_t) rfl ?_)
                    refine wpList_nil ?_
                    refine (X_then (hK104_ _ _ ?_))
                    clear hK104_
                    refine C_condT rfl ?_
                    refine C_seq (fun K106_ hK106_ => ?_)
                    refine C_reg ?_
                    have H108_ : Holds w96_ (ro R :: sl 5 1 (Value.slice (some ⟨b94_, 0, none⟩) x68_.kV_Key.size cp95_) (List.length (ints x68_.kV_Key)) (bytesV (ints x68_.kV_Key)) :: sl 5 1 (Value.slice (some ⟨b82_, 0, none⟩) x68_.kV_Value.size cp83_) (List.length (ints x68_.kV_Value)) (bytesV (ints x68_.kV_Value)) :: cl b72_ 42 [(Value.int .i64 x68_.rev_Main), (Value.int .i64 x68_.rev_Sub), (Value.bool x68_.gone), (Value.string x68_.kV_Key), (Value.string x68_.kV_Value), (Value.int .i64 x68_.kV_Create), (Value.int .i64 x68_.kV_Mod), (Value.int .i64 x68_.kV_Version), (Value.int .i64 x68_.kV_Lease)] :: F) := (Holds.bring H102_ 3 rfl)
                    refine S_list (T_call (al := []) (pre := []) (F := sl 5 1 (Value.slice (some ⟨b94_, 0, none⟩) x68_.kV_Key.size cp95_) (List.length (ints x68_.kV_Key)) (bytesV (ints x68_.kV_Key)) :: sl 5 1 (Value.slice (some ⟨b82_, 0, none⟩) x68_.kV_Value.size cp83_) (List.length (ints x68_.kV_Value)) (bytesV (ints x68_.kV_Value)) :: cl b72_ 42 [(Value.int .i64 x68_.rev_Main), (Value.int .i64 x68_.rev_Sub), (Value.bool x68_.gone), (Value.string x68_.kV_Key), (Value.string x68_.kV_Value), (Value.int .i64 x68_.kV_Create), (Value.int .i64 x68_.kV_Mod), (Value.int .i64 x68_.kV_Version), (Value.int .i64 x68_.kV_Lease)] :: F) rfl rfl cb13 (lTwo R) H108_ ?_)
                    rintro v107_ p112_ w109_ ⟨rfl, rfl⟩ S111_ H110_
                    replace H110_ : Holds w109_ (ro R :: sl 5 1 (Value.slice (some ⟨b94_, 0, none⟩) x68_.kV_Key.size cp95_) (List.length (ints x68_.kV_Key)) (bytesV (ints x68_.kV_Key)) :: sl 5 1 (Value.slice (some ⟨b82_, 0, none⟩) x68_.kV_Value.size cp83_) (List.length (ints x68_.kV_Value)) (bytesV (ints x68_.kV_Value)) :: cl b72_ 42 [(Value.int .i64 x68_.rev_Main), (Value.int .i64 x68_.rev_Sub), (Value.bool x68_.gone), (Value.string x68_.kV_Key), (Value.string x68_.kV_Value), (Value.int .i64 x68_.kV_Create), (Value.int .i64 x68_.kV_Mod), (Value.int .i64 x68_.kV_Version), (Value.int .i64 x68_.kV_Lease)] :: F) := H110_
                    have S113_ := Same.trans S100_ S111_
                    refine S_list (T_val (v := (Value.bool true)) (x_assign rfl) ?_)
                    refine wpList_nil ?_
                    refine (X_then (hK106_ _ _ ?_))
                    clear hK106_
                    refine C_ret (X_thenR ?_)
                    refine R_any (v := (Value.bool true)) (run_results1 rfl rfl) ?_
                    have H114_ : Holds w109_ (ro R :: F) := (Holds.erase (Holds.erase (Holds.erase (Holds.bring H110_ 0 rfl) 1) 1) 1)
                    exact ⟨_, [], rfl, ⟨rfl, rfl⟩, S113_, H114_⟩
                  · have c105_fp : ¬ ((x68_.kV_Key.size : Int) = 0) := of_decide_eq_false c105_f
                    refine S_yes (j := 3) (dj := 72) (b := false) rfl rfl (congrArg Value.bool c105_f) (T_val (v := (Value.agg #[(Value.int .i64 x68_.rev_Main), (Value.int .i64 x68_.rev_Sub), (Value.bool x68_.gone), (Value.string x68_.kV_Key), (Value.string x68_.kV_Value), (Value.int .i64 x68_.kV_Create), (Value.int .i64 x68_.kV_Mod), (Value.int .i64 x68_.kV_Version), (Value.int .i64 x68_.kV_Lease)])) (x_loadN (vs := [(Value.int .i64 x68_.rev_Main), (Value.int .i64 x68_.rev_Sub), (Value.bool x68_.gone), (Value.string x68_.kV_Key), (Value.string x68_.kV_Value), (Value.int .i64 x68_.kV_Create), (Value.int .i64 x68_.kV_Mod), (Value.int .i64 x68_.kV_Version), (Value.int .i64 x68_.kV_Lease)]) rfl Try.underlying42 rfl z42 rfl (Rd.cells (Holds.rd H102_ 2 rfl) 0 rfl)) ?_)
                    refine S_yes (j := 3) (dj := 72) (b := false) rfl rfl (congrArg Value.bool c105_f) (T_val (v := (Value.int .i64 compact)) (x_move rfl) ?_)
                    refine S_yes (j := 3) (dj := 72) (b := false) rfl rfl (congrArg Value.bool c105_f) (T_val (v := (Value.int .i64 rev)) (x_move rfl) ?_)
                    refine S_yes (j := 3) (dj := 72) (b := false) rfl rfl (congrArg Value.bool c105_f) (T_val (v := vk) (x_move rfl) ?_)
                    have H118_ : Holds w96_ (ro R :: sl 5 1 (Value.slice (some ⟨b94_, 0, none⟩) x68_.kV_Key.size cp95_) (List.length (ints x68_.kV_Key)) (bytesV (ints x68_.kV_Key)) :: sl 5 1 (Value.slice (some ⟨b82_, 0, none⟩) x68_.kV_Value.size cp83_) (List.length (ints x68_.kV_Value)) (bytesV (ints x68_.kV_Value)) :: cl b72_ 42 [(Value.int .i64 x68_.rev_Main), (Value.int .i64 x68_.rev_Sub), (Value.bool x68_.gone), (Value.string x68_.kV_Key), (Value.string x68_.kV_Value), (Value.int .i64 x68_.kV_Create), (Value.int .i64 x68_.kV_Mod), (Value.int .i64 x68_.kV_Version), (Value.int .i64 x68_.kV_Lease)] :: F) := (Holds.bring H102_ 3 rfl)
                    refine S_yes (j := 3) (dj := 72) (b := false) rfl rfl (congrArg Value.bool c105_f) (T_call (al := [(Value.agg #[(Value.int .i64 x68_.rev_Main), (Value.int .i64 x68_.rev_Sub), (Value.bool x68_.gone), (Value.string x68_.kV_Key), (Value.string x68_.kV_Value), (Value.int .i64 x68_.kV_Create), (Value.int .i64 x68_.kV_Mod), (Value.int .i64 x68_.kV_Version), (Value.int .i64 x68_.kV_Lease)]), (Value.int .i64 compact), (Value.int .i64 rev), vk]) (pre := []) (F := sl 5 1 (Value.slice (some ⟨b94_, 0, none⟩) x68_.kV_Key.size cp95_) (List.length (ints x68_.kV_Key)) (bytesV (ints x68_.kV_Key)) :: sl 5 1 (Value.slice (some ⟨b82_, 0, none⟩) x68_.kV_Value.size cp83_) (List.length (ints x68_.kV_Value)) (bytesV (ints x68_.kV_Value)) :: cl b72_ 42 [(Value.int .i64 x68_.rev_Main), (Value.int .i64 x68_.rev_Sub), (Value.bool x68_.gone), (Value.string x68_.kV_Key), (Value.string x68_.kV_Value), (Value.int .i64 x68_.kV_Create), (Value.int .i64 x68_.kV_Mod), (Value.int .i64 x68_.kV_Version), (Value.int .i64 x68_.kV_Lease)] :: F) rfl rfl cb14 (lCounts R x68_ compact rev vk K hKs (by first | assumption | omega)) H118_ ?_)
                    rintro v115_ p122_ w119_ ⟨b116_, rfl, rfl, he117_⟩ S121_ H120_
                    replace H120_ : Holds w119_ (ro R :: sl 5 1 (Value.slice (some ⟨b94_, 0, none⟩) x68_.kV_Key.size cp95_) (List.length (ints x68_.kV_Key)) (bytesV (ints x68_.kV_Key)) :: sl 5 1 (Value.slice (some ⟨b82_, 0, none⟩) x68_.kV_Value.size cp83_) (List.length (ints x68_.kV_Value)) (bytesV (ints x68_.kV_Value)) :: cl b72_ 42 [(Value.int .i64 x68_.rev_Main), (Value.int .i64 x68_.rev_Sub), (Value.bool x68_.gone), (Value.string x68_.kV_Key), (Value.string x68_.kV_Value), (Value.int .i64 x68_.kV_Create), (Value.int .i64 x68_.kV_Mod), (Value.int .i64 x68_.kV_Version), (Value.int .i64 x68_.kV_Lease)] :: F) := H120_
                    have S123_ := Same.trans S100_ S121_
                    refine S_yes (j := 3) (dj := 72) (b := false) rfl rfl (congrArg Value.bool c105_f) (T_val (v := (Value.bool (!b116_))) (x_not rfl) ?_)
                    refine S_list (T_pickF (v := (Value.bool (!b116_))) (congrArg Value.bool c105_f) rfl ?_)
                    refine wpList_nil ?_
                    refine (X_then (hK104_ _ _ ?_))
                    clear hK104_
                    refine C_cond (b := !b116_) rfl (fun c124_t => ?_) (fun c124_f => ?_)
                    · skip
                      refine C_seq (fun K125_ hK125_ => ?_)
                      refine C_reg ?_
                      refine S_list (T_call (al := []) (pre := []) (F := sl 5 1 (Value.slice (some ⟨b94_, 0, none⟩) x68_.kV_Key.size cp95_) (List.length (ints x68_.kV_Key)) (bytesV (ints x68_.kV_Key)) :: sl 5 1 (Value.slice (some ⟨b82_, 0, none⟩) x68_.kV_Value.size cp83_) (List.length (ints x68_.kV_Value)) (bytesV (ints x68_.kV_Value)) :: cl b72_ 42 [(Value.int .i64 x68_.rev_Main), (Value.int .i64 x68_.rev_Sub), (Value.bool x68_.gone), (Value.string x68_.kV_Key), (Value.string x68_.kV_Value), (Value.int .i64 x68_.kV_Create), (Value.int .i64 x68_.kV_Mod), (Value.int .i64 x68_.kV_Version), (Value.int .i64 x68_.kV_Lease)] :: F) rfl rfl cb13 (lTwo R) H120_ ?_)
                      rintro v126_ p130_ w127_ ⟨rfl, rfl⟩ S129_ H128_
                      replace H128_ : Holds w127_ (ro R :: sl 5 1 (Value.slice (some ⟨b94_, 0, none⟩) x68_.kV_Key.size cp95_) (List.length (ints x68_.kV_Key)) (bytesV (ints x68_.kV_Key)) :: sl 5 1 (Value.slice (some ⟨b82_, 0, none⟩) x68_.kV_Value.size cp83_) (List.length (ints x68_.kV_Value)) (bytesV (ints x68_.kV_Value)) :: cl b72_ 42 [(Value.int .i64 x68_.rev_Main), (Value.int .i64 x68_.rev_Sub), (Value.bool x68_.gone), (Value.string x68_.kV_Key), (Value.string x68_.kV_Value), (Value.int .i64 x68_.kV_Create), (Value.int .i64 x68_.kV_Mod), (Value.int .i64 x68_.kV_Version), (Value.int .i64 x68_.kV_Lease)] :: F) := H128_
                      have S131_ := Same.trans S123_ S129_
                      refine S_list (T_val (v := (Value.bool true)) (x_assign rfl) ?_)
                      refine wpList_nil ?_
                      refine (X_then (hK125_ _ _ ?_))
                      clear hK125_
                      refine C_ret (X_thenR ?_)
                      refine R_any (v := (Value.bool true)) (run_results1 rfl rfl) ?_
                      have H132_ : Holds w127_ (ro R :: F) := (Holds.erase (Holds.erase (Holds.erase (Holds.bring H128_ 0 rfl) 1) 1) 1)
                      exact ⟨_, [], rfl, ⟨rfl, rfl⟩, S131_, H132_⟩
                    · skip
                      refine C_skip (X_then (hK103_ _ _ ?_))
                      clear hK103_
                      refine C_seq (fun K133_ hK133_ => ?_)
                      refine C_reg ?_
                      refine S_list (T_val (v := (Value.slice (some ⟨b94_, 0, none⟩) x68_.kV_Key.size cp95_)) (x_move rfl) ?_)
                      refine S_list (T_val (v := (Value.int .i64 place)) (x_move rfl) ?_)
                      refine S_list (T_val (v := (Value.slice (some ⟨b94_, 0, none⟩) x68_.kV_Key.size cp95_)) (x_move rfl) ?_)
                      refine S_list (T_val (v := (Value.int .i64 (x68_.kV_Key.size : Int))) (x_lenS rfl Try.underlying43) ?_)
                      have hi1_ := ints_length x68_.kV_Key
                      have hi2_ := ints_length x68_.kV_Value
                      obtain ⟨pN, hpN⟩ : ∃ i, place.toNat % x68_.kV_Key.size = i := ⟨_, rfl⟩
                      have hpL : pN < x68_.kV_Key.size := hpN ▸ Nat.mod_lt _ (by omega)
                      refine S_list (T_val (v := (Value.int .i64 (pN : Int))) (x_bin rfl rfl (ib_remN (x := place.toNat) (y := x68_.kV_Key.size) (r := pN) (by omega) (by omega) (by omega) (by omega) hpN)) ?_)
                      have hr134_ := Holds.sl_RSw H120_ 1 rfl
                      refine S_list (T_val (v := (Value.pointer (some ⟨(sb (Value.slice (some ⟨b94_, 0, none⟩) x68_.kV_Key.size cp95_)), so (Value.slice (some ⟨b94_, 0, none⟩) x68_.kV_Key.size cp95_) + pN, none⟩))) (x_idxSlR (v := (Value.slice (some ⟨b94_, 0, none⟩) x68_.kV_Key.size cp95_)) rfl hr134_ rfl Try.underlying43 z5 (by omega) (by first | omega | exact Nat.mod_lt _ (by omega) | (simp only [ints_length]; exact Nat.mod_lt _ (by omega))) (by omega : _ = pN) (by rw [Nat.mul_one])) ?_)
                      obtain ⟨x135_, hx136_, hm137_⟩ := elem_at (ints x68_.kV_Key) pN (by first | omega | exact Nat.mod_lt _ (by omega) | (simp only [ints_length]; exact Nat.mod_lt _ (by omega)))
                      refine S_list (T_val (v := (Value.int .u8 x135_)) (x_load1 rfl Try.underlying5 rfl ((Holds.slrd H120_ 1 rfl) _ _ (map_at hx136_))) ?_)
                      refine S_list (T_val (v := (Value.int .u8 by_)) (x_move rfl) ?_)
                      refine S_list (T_val (v := (Value.int .u8 (ixor .u8 x135_ by_))) (x_bin rfl rfl rfl) ?_)
                      refine S_list (T_val (v := (Value.pointer (some ⟨(sb (Value.slice (some ⟨b94_, 0, none⟩) x68_.kV_Key.size cp95_)), so (Value.slice (some ⟨b94_, 0, none⟩) x68_.kV_Key.size cp95_) + pN, none⟩))) (x_idxSlR (v := (Value.slice (some ⟨b94_, 0, none⟩) x68_.kV_Key.size cp95_)) rfl hr134_ rfl Try.underlying43 z5 (by omega) (by first | omega | exact Nat.mod_lt _ (by omega) | (simp only [ints_length]; exact Nat.mod_lt _ (by omega))) (by omega : _ = pN) (by rw [Nat.mul_one])) ?_)
                      refine S_list0 (T_storeSl (v := (Value.slice (some ⟨b94_, 0, none⟩) x68_.kV_Key.size cp95_)) (u := (Value.int .u8 (ixor .u8 x135_ by_))) rfl rfl z5 rfl H120_ 1 rfl (by first | omega | (rw [bytesV_len, ints_length]; omega)) rfl rfl ?_)
                      intro w138_ S140_ H139_
                      replace H139_ : Holds w138_ (ro R :: sl 5 1 (Value.slice (some ⟨b94_, 0, none⟩) x68_.kV_Key.size cp95_) (List.length (ints x68_.kV_Key)) (List.set (bytesV (ints x68_.kV_Key)) pN (Value.int .u8 (ixor .u8 x135_ by_))) :: sl 5 1 (Value.slice (some ⟨b82_, 0, none⟩) x68_.kV_Value.size cp83_) (List.length (ints x68_.kV_Value)) (bytesV (ints x68_.kV_Value)) :: cl b72_ 42 [(Value.int .i64 x68_.rev_Main), (Value.int .i64 x68_.rev_Sub), (Value.bool x68_.gone), (Value.string x68_.kV_Key), (Value.string x68_.kV_Value), (Value.int .i64 x68_.kV_Create), (Value.int .i64 x68_.kV_Mod), (Value.int .i64 x68_.kV_Version), (Value.int .i64 x68_.kV_Lease)] :: F) := H139_
                      have S141_ := Same.trans S123_ S140_
                      have H142_ : Holds w138_ (ro R :: sl 5 1 (Value.slice (some ⟨b94_, 0, none⟩) x68_.kV_Key.size cp95_) (List.length (List.set (ints x68_.kV_Key) pN (ixor .u8 x135_ by_))) (bytesV (List.set (ints x68_.kV_Key) pN (ixor .u8 x135_ by_))) :: sl 5 1 (Value.slice (some ⟨b82_, 0, none⟩) x68_.kV_Value.size cp83_) (List.length (ints x68_.kV_Value)) (bytesV (ints x68_.kV_Value)) :: cl b72_ 42 [(Value.int .i64 x68_.rev_Main), (Value.int .i64 x68_.rev_Sub), (Value.bool x68_.gone), (Value.string x68_.kV_Key), (Value.string x68_.kV_Value), (Value.int .i64 x68_.kV_Create), (Value.int .i64 x68_.kV_Mod), (Value.int .i64 x68_.kV_Version), (Value.int .i64 x68_.kV_Lease)] :: F) := cast2 (P := fun (c__ : List Value) (k__ : Nat) => Holds w138_ (ro R :: sl 5 1 (Value.slice (some ⟨b94_, 0, none⟩) x68_.kV_Key.size cp95_) k__ c__ :: sl 5 1 (Value.slice (some ⟨b82_, 0, none⟩) x68_.kV_Value.size cp83_) (List.length (ints x68_.kV_Value)) (bytesV (ints x68_.kV_Value)) :: cl b72_ 42 [(Value.int .i64 x68_.rev_Main), (Value.int .i64 x68_.rev_Sub), (Value.bool x68_.gone), (Value.string x68_.kV_Key), (Value.string x68_.kV_Value), (Value.int .i64 x68_.kV_Create), (Value.int .i64 x68_.kV_Mod), (Value.int .i64 x68_.kV_Version), (Value.int .i64 x68_.kV_Lease)] :: F)) (bytesV_set _ _ _ : List.set (bytesV (ints x68_.kV_Key)) pN (Value.int .u8 (ixor .u8 x135_ by_)) = bytesV (List.set (ints x68_.kV_Key) pN (ixor .u8 x135_ by_))) (by simp : (List.length (ints x68_.kV_Key)) = (List.length (List.set (ints x68_.kV_Key) pN (ixor .u8 x135_ by_)))) H139_
                      refine wpList_nil ?_
                      refine (X_then (hK133_ _ _ ?_))
                      clear hK133_
                      refine C_seq (fun K143_ hK143_ => ?_)
                      refine C_seq (fun K144_ hK144_ => ?_)
                      refine C_reg ?_
                      refine S_list (T_val (v := (Value.pointer (some ⟨b72_, 2, none⟩))) (by kernel_rfl) ?_)
                      refine S_list (T_val (v := (Value.bool x68_.gone)) (x_load1 rfl Try.underlying4 rfl ((Holds.rd H142_ 3 rfl) 2 (Value.bool x68_.gone) rfl)) ?_)
                      refine wpList_nil ?_
                      refine (X_then (hK144_ _ _ ?_))
                      clear hK144_
                      refine C_condT (congrArg Value.bool c93_t) ?_
                      refine C_reg ?_
                      refine S_list (T_val (v := (Value.slice (some ⟨b94_, 0, none⟩) x68_.kV_Key.size cp95_)) (x_move rfl) ?_)
                      refine S_list (T_val (v := (Value.string (strN (List.set (ints x68_.kV_Key) pN (ixor .u8 x135_ by_))))) (x_b2sSl rfl H142_ 1 rfl Try.underlying43 Try.underlying5 Try.underlying9) ?_)
                      refine S_list (T_val (v := (Value.pointer (some ⟨b72_, 3, none⟩))) (by kernel_rfl) ?_)
                      refine S_list (T_val (v := (Value.pointer (some ⟨b72_, 3, none⟩))) (by kernel_rfl) ?_)
                      refine S_list0 (T_store1 (v := (Value.string (strN (List.set (ints x68_.kV_Key) pN (ixor .u8 x135_ by_))))) rfl rfl z9 rfl H142_ 3 rfl (Nat.le_of_ble_eq_true (by rfl)) ?_)
                      intro w145_ S147_ H146_
                      replace H146_ : Holds w145_ (ro R :: sl 5 1 (Value.slice (some ⟨b94_, 0, none⟩) x68_.kV_Key.size cp95_) (List.length (List.set (ints x68_.kV_Key) pN (ixor .u8 x135_ by_))) (bytesV (List.set (ints x68_.kV_Key) pN (ixor .u8 x135_ by_))) :: sl 5 1 (Value.slice (some ⟨b82_, 0, none⟩) x68_.kV_Value.size cp83_) (List.length (ints x68_.kV_Value)) (bytesV (ints x68_.kV_Value)) :: cl b72_ 42 [(Value.int .i64 x68_.rev_Main), (Value.int .i64 x68_.rev_Sub), (Value.bool x68_.gone), (Value.string (strN (List.set (ints x68_.kV_Key) pN (ixor .u8 x135_ by_)))), (Value.string x68_.kV_Value), (Value.int .i64 x68_.kV_Create), (Value.int .i64 x68_.kV_Mod), (Value.int .i64 x68_.kV_Version), (Value.int .i64 x68_.kV_Lease)] :: F) := H146_
                      have S148_ := Same.trans S141_ S147_
                      refine wpList_nil ?_
                      refine (X_then (hK143_ _ _ ?_))
                      clear hK143_
                      refine C_seq (fun K149_ hK149_ => ?_)
                      refine C_reg ?_
                      refine S_list (T_val (v := v) (x_move rfl) ?_)
                      refine S_list (T_call (al := [v]) (pre := []) (F := sl 5 1 (Value.slice (some ⟨b94_, 0, none⟩) x68_.kV_Key.size cp95_) (List.length (List.set (ints x68_.kV_Key) pN (ixor .u8 x135_ by_))) (bytesV (List.set (ints x68_.kV_Key) pN (ixor .u8 x135_ by_))) :: sl 5 1 (Value.slice (some ⟨b82_, 0, none⟩) x68_.kV_Value.size cp83_) (List.length (ints x68_.kV_Value)) (bytesV (ints x68_.kV_Value)) :: cl b72_ 42 [(Value.int .i64 x68_.rev_Main), (Value.int .i64 x68_.rev_Sub), (Value.bool x68_.gone), (Value.string (strN (List.set (ints x68_.kV_Key) pN (ixor .u8 x135_ by_)))), (Value.string x68_.kV_Value), (Value.int .i64 x68_.kV_Create), (Value.int .i64 x68_.kV_Mod), (Value.int .i64 x68_.kV_Version), (Value.int .i64 x68_.kV_Lease)] :: F) rfl rfl cb15 (hClone R v L hL (by first | assumption | omega)) H146_ ?_)
                      rintro v150_ p154_ w151_ ⟨_, rfl, rfl⟩ S153_ H152_
                      replace H152_ : Holds w151_ (ro R :: sl 42 9 v150_ (List.length L) (L.flatMap RW.cells) :: sl 5 1 (Value.slice (some ⟨b94_, 0, none⟩) x68_.kV_Key.size cp95_) (List.length (List.set (ints x68_.kV_Key) pN (ixor .u8 x135_ by_))) (bytesV (List.set (ints x68_.kV_Key) pN (ixor .u8 x135_ by_))) :: sl 5 1 (Value.slice (some ⟨b82_, 0, none⟩) x68_.kV_Value.size cp83_) (List.length (ints x68_.kV_Value)) (bytesV (ints x68_.kV_Value)) :: cl b72_ 42 [(Value.int .i64 x68_.rev_Main), (Value.int .i64 x68_.rev_Sub), (Value.bool x68_.gone), (Value.string (strN (List.set (ints x68_.kV_Key) pN (ixor .u8 x135_ by_)))), (Value.string x68_.kV_Value), (Value.int .i64 x68_.kV_Create), (Value.int .i64 x68_.kV_Mod), (Value.int .i64 x68_.kV_Version), (Value.int .i64 x68_.kV_Lease)] :: F) := H152_
                      have S155_ := Same.trans S148_ S153_
                      refine S_list (T_val (v := v150_) (x_assign rfl) ?_)
                      refine wpList_nil ?_
                      refine (X_then (hK149_ _ _ ?_))
                      clear hK149_
                      refine C_seq (fun K156_ hK156_ => ?_)
                      refine C_reg ?_
                      refine S_list (T_val (v := v150_) (x_move rfl) ?_)
                      refine S_list (T_val (v := (Value.int .i64 (iN : Int))) (x_move rfl) ?_)
                      refine S_list (T_val (v := (Value.agg #[(Value.int .i64 x68_.rev_Main), (Value.int .i64 x68_.rev_Sub), (Value.bool x68_.gone), (Value.string (strN (List.set (ints x68_.kV_Key) pN (ixor .u8 x135_ by_)))), (Value.string x68_.kV_Value), (Value.int .i64 x68_.kV_Create), (Value.int .i64 x68_.kV_Mod), (Value.int .i64 x68_.kV_Version), (Value.int .i64 x68_.kV_Lease)])) (x_loadN (vs := [(Value.int .i64 x68_.rev_Main), (Value.int .i64 x68_.rev_Sub), (Value.bool x68_.gone), (Value.string (strN (List.set (ints x68_.kV_Key) pN (ixor .u8 x135_ by_)))), (Value.string x68_.kV_Value), (Value.int .i64 x68_.kV_Create), (Value.int .i64 x68_.kV_Mod), (Value.int .i64 x68_.kV_Version), (Value.int .i64 x68_.kV_Lease)]) rfl Try.underlying42 rfl z42 rfl (Rd.cells (Holds.rd H152_ 4 rfl) 0 rfl)) ?_)
                      have hr157_ := Holds.sl_RSw H152_ 1 rfl
                      refine S_list (T_val (v := (Value.pointer (some ⟨(sb v150_), so v150_ + (iN * 9 + 0), none⟩))) (x_idxSlR (v := v150_) rfl hr157_ rfl Try.underlying34 z42 (by omega) (by first | omega | exact Nat.mod_lt _ (by omega) | (simp only [ints_length]; exact Nat.mod_lt _ (by omega))) (by omega : _ = iN) rfl) ?_)
                      refine S_list0 (T_storeSlN (vs := [(Value.int .i64 x68_.rev_Main), (Value.int .i64 x68_.rev_Sub), (Value.bool x68_.gone), (Value.string (strN (List.set (ints x68_.kV_Key) pN (ixor .u8 x135_ by_)))), (Value.string x68_.kV_Value), (Value.int .i64 x68_.kV_Create), (Value.int .i64 x68_.kV_Mod), (Value.int .i64 x68_.kV_Version), (Value.int .i64 x68_.kV_Lease)]) (k := iN * 9) rfl rfl z42 rfl (by simp [Value.oneCell']) H152_ 1 rfl (by rw [rw_flen]; show _ + 9 ≤ _; omega) (Nat.zero_lt_succ _) rfl rfl ?_)
                      intro w158_ S160_ H159_
                      replace H159_ : Holds w158_ (ro R :: sl 42 9 v150_ (List.length L) (List.take (iN * 9) (L.flatMap RW.cells) ++ [(Value.int .i64 x68_.rev_Main), (Value.int .i64 x68_.rev_Sub), (Value.bool x68_.gone), (Value.string (strN (List.set (ints x68_.kV_Key) pN (ixor .u8 x135_ by_)))), (Value.string x68_.kV_Value), (Value.int .i64 x68_.kV_Create), (Value.int .i64 x68_.kV_Mod), (Value.int .i64 x68_.kV_Version), (Value.int .i64 x68_.kV_Lease)] ++ List.drop (iN * 9 + List.length [(Value.int .i64 x68_.rev_Main), (Value.int .i64 x68_.rev_Sub), (Value.bool x68_.gone), (Value.string (strN (List.set (ints x68_.kV_Key) pN (ixor .u8 x135_ by_)))), (Value.string x68_.kV_Value), (Value.int .i64 x68_.kV_Create), (Value.int .i64 x68_.kV_Mod), (Value.int .i64 x68_.kV_Version), (Value.int .i64 x68_.kV_Lease)]) (L.flatMap RW.cells)) :: sl 5 1 (Value.slice (some ⟨b94_, 0, none⟩) x68_.kV_Key.size cp95_) (List.length (List.set (ints x68_.kV_Key) pN (ixor .u8 x135_ by_))) (bytesV (List.set (ints x68_.kV_Key) pN (ixor .u8 x135_ by_))) :: sl 5 1 (Value.slice (some ⟨b82_, 0, none⟩) x68_.kV_Value.size cp83_) (List.length (ints x68_.kV_Value)) (bytesV (ints x68_.kV_Value)) :: cl b72_ 42 [(Value.int .i64 x68_.rev_Main), (Value.int .i64 x68_.rev_Sub), (Value.bool x68_.gone), (Value.string (strN (List.set (ints x68_.kV_Key) pN (ixor .u8 x135_ by_)))), (Value.string x68_.kV_Value), (Value.int .i64 x68_.kV_Create), (Value.int .i64 x68_.kV_Mod), (Value.int .i64 x68_.kV_Version), (Value.int .i64 x68_.kV_Lease)] :: F) := H159_
                      have S161_ := Same.trans S155_ S160_
                      have H162_ : Holds w158_ (ro R :: sl 42 9 v150_ (List.length (List.set L iN (⟨x68_.rev_Main, x68_.rev_Sub, x68_.gone, strN (List.set (ints x68_.kV_Key) pN (ixor .u8 x135_ by_)), x68_.kV_Value, x68_.kV_Create, x68_.kV_Mod, x68_.kV_Version, x68_.kV_Lease⟩ : RW))) ((List.set L iN (⟨x68_.rev_Main, x68_.rev_Sub, x68_.gone, strN (List.set (ints x68_.kV_Key) pN (ixor .u8 x135_ by_)), x68_.kV_Value, x68_.kV_Create, x68_.kV_Mod, x68_.kV_Version, x68_.kV_Lease⟩ : RW)).flatMap RW.cells) :: sl 5 1 (Value.slice (some ⟨b94_, 0, none⟩) x68_.kV_Key.size cp95_) (List.length (List.set (ints x68_.kV_Key) pN (ixor .u8 x135_ by_))) (bytesV (List.set (ints x68_.kV_Key) pN (ixor .u8 x135_ by_))) :: sl 5 1 (Value.slice (some ⟨b82_, 0, none⟩) x68_.kV_Value.size cp83_) (List.length (ints x68_.kV_Value)) (bytesV (ints x68_.kV_Value)) :: cl b72_ 42 [(Value.int .i64 x68_.rev_Main), (Value.int .i64 x68_.rev_Sub), (Value.bool x68_.gone), (Value.string (strN (List.set (ints x68_.kV_Key) pN (ixor .u8 x135_ by_)))), (Value.string x68_.kV_Value), (Value.int .i64 x68_.kV_Create), (Value.int .i64 x68_.kV_Mod), (Value.int .i64 x68_.kV_Version), (Value.int .i64 x68_.kV_Lease)] :: F) := cast2 (P := fun (c__ : List Value) (k__ : Nat) => Holds w158_ (ro R :: sl 42 9 v150_ k__ c__ :: sl 5 1 (Value.slice (some ⟨b94_, 0, none⟩) x68_.kV_Key.size cp95_) (List.length (List.set (ints x68_.kV_Key) pN (ixor .u8 x135_ by_))) (bytesV (List.set (ints x68_.kV_Key) pN (ixor .u8 x135_ by_))) :: sl 5 1 (Value.slice (some ⟨b82_, 0, none⟩) x68_.kV_Value.size cp83_) (List.length (ints x68_.kV_Value)) (bytesV (ints x68_.kV_Value)) :: cl b72_ 42 [(Value.int .i64 x68_.rev_Main), (Value.int .i64 x68_.rev_Sub), (Value.bool x68_.gone), (Value.string (strN (List.set (ints x68_.kV_Key) pN (ixor .u8 x135_ by_)))), (Value.string x68_.kV_Value), (Value.int .i64 x68_.kV_Create), (Value.int .i64 x68_.kV_Mod), (Value.int .i64 x68_.kV_Version), (Value.int .i64 x68_.kV_Lease)] :: F)) (rw_set L _ (⟨x68_.rev_Main, x68_.rev_Sub, x68_.gone, strN (List.set (ints x68_.kV_Key) pN (ixor .u8 x135_ by_)), x68_.kV_Value, x68_.kV_Create, x68_.kV_Mod, x68_.kV_Version, x68_.kV_Lease⟩ : RW) hiL : List.take (iN * 9) (L.flatMap RW.cells) ++ [(Value.int .i64 x68_.rev_Main), (Value.int .i64 x68_.rev_Sub), (Value.bool x68_.gone), (Value.string (strN (List.set (ints x68_.kV_Key) pN (ixor .u8 x135_ by_)))), (Value.string x68_.kV_Value), (Value.int .i64 x68_.kV_Create), (Value.int .i64 x68_.kV_Mod), (Value.int .i64 x68_.kV_Version), (Value.int .i64 x68_.kV_Lease)] ++ List.drop (iN * 9 + List.length [(Value.int .i64 x68_.rev_Main), (Value.int .i64 x68_.rev_Sub), (Value.bool x68_.gone), (Value.string (strN (List.set (ints x68_.kV_Key) pN (ixor .u8 x135_ by_)))), (Value.string x68_.kV_Value), (Value.int .i64 x68_.kV_Create), (Value.int .i64 x68_.kV_Mod), (Value.int .i64 x68_.kV_Version), (Value.int .i64 x68_.kV_Lease)]) (L.flatMap RW.cells) = (List.set L iN (⟨x68_.rev_Main, x68_.rev_Sub, x68_.gone, strN (List.set (ints x68_.kV_Key) pN (ixor .u8 x135_ by_)), x68_.kV_Value, x68_.kV_Create, x68_.kV_Mod, x68_.kV_Version, x68_.kV_Lease⟩ : RW)).flatMap RW.cells) ((List.length_set ..).symm : (List.length L) = (List.length (List.set L iN (⟨x68_.rev_Main, x68_.rev_Sub, x68_.gone, strN (List.set (ints x68_.kV_Key) pN (ixor .u8 x135_ by_)), x68_.kV_Value, x68_.kV_Create, x68_.kV_Mod, x68_.kV_Version, x68_.kV_Lease⟩ : RW)))) H159_
                      refine wpList_nil ?_
                      refine (X_then (hK156_ _ _ ?_))
                      clear hK156_
                      refine C_seq (fun K163_ hK163_ => ?_)
                      refine C_reg ?_
                      refine S_list (T_val (v := (Value.int .i64 compact)) (x_move rfl) ?_)
                      refine S_list (T_val (v := (Value.int .i64 rev)) (x_move rfl) ?_)
                      refine S_list (T_val (v := vk) (x_move rfl) ?_)
                      refine S_list (T_val (v := v) (x_move rfl) ?_)
                      refine S_list (T_call (al := [(Value.int .i64 compact), (Value.int .i64 rev), vk, v]) (pre := []) (F := sl 42 9 v150_ (List.length (List.set L iN (⟨x68_.rev_Main, x68_.rev_Sub, x68_.gone, strN (List.set (ints x68_.kV_Key) pN (ixor .u8 x135_ by_)), x68_.kV_Value, x68_.kV_Create, x68_.kV_Mod, x68_.kV_Version, x68_.kV_Lease⟩ : RW))) ((List.set L iN (⟨x68_.rev_Main, x68_.rev_Sub, x68_.gone, strN (List.set (ints x68_.kV_Key) pN (ixor .u8 x135_ by_)), x68_.kV_Value, x68_.kV_Create, x68_.kV_Mod, x68_.kV_Version, x68_.kV_Lease⟩ : RW)).flatMap RW.cells) :: sl 5 1 (Value.slice (some ⟨b94_, 0, none⟩) x68_.kV_Key.size cp95_) (List.length (List.set (ints x68_.kV_Key) pN (ixor .u8 x135_ by_))) (bytesV (List.set (ints x68_.kV_Key) pN (ixor .u8 x135_ by_))) :: sl 5 1 (Value.slice (some ⟨b82_, 0, none⟩) x68_.kV_Value.size cp83_) (List.length (ints x68_.kV_Value)) (bytesV (ints x68_.kV_Value)) :: cl b72_ 42 [(Value.int .i64 x68_.rev_Main), (Value.int .i64 x68_.rev_Sub), (Value.bool x68_.gone), (Value.string (strN (List.set (ints x68_.kV_Key) pN (ixor .u8 x135_ by_)))), (Value.string x68_.kV_Value), (Value.int .i64 x68_.kV_Create), (Value.int .i64 x68_.kV_Mod), (Value.int .i64 x68_.kV_Version), (Value.int .i64 x68_.kV_Lease)] :: F) rfl rfl cb16 (hHasher R compact rev vk v K L hKs hL (by first | assumption | omega) (by first | assumption | omega) (fun x hx => by have h1 := hG x hx; have h2 := hW x hx; exact ⟨by omega, by omega, by omega, by omega, by omega, by omega⟩) (by first | assumption | omega) (by first | assumption | omega) (by first | assumption | omega) (by first | assumption | omega)) H162_ ?_)
                      rintro v164_ p168_ w165_ ⟨rfl, rfl⟩ S167_ H166_
                      replace H166_ : Holds w165_ (ro R :: sl 42 9 v150_ (List.length (List.set L iN (⟨x68_.rev_Main, x68_.rev_Sub, x68_.gone, strN (List.set (ints x68_.kV_Key) pN (ixor .u8 x135_ by_)), x68_.kV_Value, x68_.kV_Create, x68_.kV_Mod, x68_.kV_Version, x68_.kV_Lease⟩ : RW))) ((List.set L iN (⟨x68_.rev_Main, x68_.rev_Sub, x68_.gone, strN (List.set (ints x68_.kV_Key) pN (ixor .u8 x135_ by_)), x68_.kV_Value, x68_.kV_Create, x68_.kV_Mod, x68_.kV_Version, x68_.kV_Lease⟩ : RW)).flatMap RW.cells) :: sl 5 1 (Value.slice (some ⟨b94_, 0, none⟩) x68_.kV_Key.size cp95_) (List.length (List.set (ints x68_.kV_Key) pN (ixor .u8 x135_ by_))) (bytesV (List.set (ints x68_.kV_Key) pN (ixor .u8 x135_ by_))) :: sl 5 1 (Value.slice (some ⟨b82_, 0, none⟩) x68_.kV_Value.size cp83_) (List.length (ints x68_.kV_Value)) (bytesV (ints x68_.kV_Value)) :: cl b72_ 42 [(Value.int .i64 x68_.rev_Main), (Value.int .i64 x68_.rev_Sub), (Value.bool x68_.gone), (Value.string (strN (List.set (ints x68_.kV_Key) pN (ixor .u8 x135_ by_)))), (Value.string x68_.kV_Value), (Value.int .i64 x68_.kV_Create), (Value.int .i64 x68_.kV_Mod), (Value.int .i64 x68_.kV_Version), (Value.int .i64 x68_.kV_Lease)] :: F) := H166_
                      have S169_ := Same.trans S161_ S167_
                      refine S_list (T_val (v := (Value.int .i64 compact)) (x_move rfl) ?_)
                      refine S_list (T_val (v := (Value.int .i64 rev)) (x_move rfl) ?_)
                      refine S_list (T_val (v := vk) (x_move rfl) ?_)
                      refine S_list (T_val (v := v150_) (x_move rfl) ?_)
                      obtain ⟨R170_, hs171_, ⟨R172_, ha173_, hs174_⟩, H175_⟩ := Holds.gift H166_
                      replace H175_ : Holds w165_ (ro R170_ :: sl 5 1 (Value.slice (some ⟨b94_, 0, none⟩) x68_.kV_Key.size cp95_) (List.length (List.set (ints x68_.kV_Key) pN (ixor .u8 x135_ by_))) (bytesV (List.set (ints x68_.kV_Key) pN (ixor .u8 x135_ by_))) :: sl 5 1 (Value.slice (some ⟨b82_, 0, none⟩) x68_.kV_Value.size cp83_) (List.length (ints x68_.kV_Value)) (bytesV (ints x68_.kV_Value)) :: cl b72_ 42 [(Value.int .i64 x68_.rev_Main), (Value.int .i64 x68_.rev_Sub), (Value.bool x68_.gone), (Value.string (strN (List.set (ints x68_.kV_Key) pN (ixor .u8 x135_ by_)))), (Value.string x68_.kV_Value), (Value.int .i64 x68_.kV_Create), (Value.int .i64 x68_.kV_Mod), (Value.int .i64 x68_.kV_Version), (Value.int .i64 x68_.kV_Lease)] :: F) := H175_
                      have hr176_ : RS R170_ 9 v150_ (List.length (List.set L iN (⟨x68_.rev_Main, x68_.rev_Sub, x68_.gone, strN (List.set (ints x68_.kV_Key) pN (ixor .u8 x135_ by_)), x68_.kV_Value, x68_.kV_Create, x68_.kV_Mod, x68_.kV_Version, x68_.kV_Lease⟩ : RW))) ((List.set L iN (⟨x68_.rev_Main, x68_.rev_Sub, x68_.gone, strN (List.set (ints x68_.kV_Key) pN (ixor .u8 x135_ by_)), x68_.kV_Value, x68_.kV_Create, x68_.kV_Mod, x68_.kV_Version, x68_.kV_Lease⟩ : RW)).flatMap RW.cells) := (sl_RS ha173_ (Sub.rfl' _)).mono hs174_
                      refine S_list (T_call (al := [(Value.int .i64 compact), (Value.int .i64 rev), vk, v150_]) (pre := []) (F := sl 5 1 (Value.slice (some ⟨b94_, 0, none⟩) x68_.kV_Key.size cp95_) (List.length (List.set (ints x68_.kV_Key) pN (ixor .u8 x135_ by_))) (bytesV (List.set (ints x68_.kV_Key) pN (ixor .u8 x135_ by_))) :: sl 5 1 (Value.slice (some ⟨b82_, 0, none⟩) x68_.kV_Value.size cp83_) (List.length (ints x68_.kV_Value)) (bytesV (ints x68_.kV_Value)) :: cl b72_ 42 [(Value.int .i64 x68_.rev_Main), (Value.int .i64 x68_.rev_Sub), (Value.bool x68_.gone), (Value.string (strN (List.set (ints x68_.kV_Key) pN (ixor .u8 x135_ by_)))), (Value.string x68_.kV_Value), (Value.int .i64 x68_.kV_Create), (Value.int .i64 x68_.kV_Mod), (Value.int .i64 x68_.kV_Version), (Value.int .i64 x68_.kV_Lease)] :: F) rfl rfl cb16 (hHasher R170_ compact rev vk v150_ K (List.set L iN (⟨x68_.rev_Main, x68_.rev_Sub, x68_.gone, strN (List.set (ints x68_.kV_Key) pN (ixor .u8 x135_ by_)), x68_.kV_Value, x68_.kV_Create, x68_.kV_Mod, x68_.kV_Version, x68_.kV_Lease⟩ : RW)) (RS.mono hKs hs171_) (RS.set_ hr176_ rfl (by first | rfl | omega | (simp; done) | (simp; omega))) (by rw [List.length_set]; omega) (by first | assumption | omega) (set_ok (fun x hx => ⟨by have := hG x hx; omega, by have := hW x hx; omega, by have := hG x hx; omega, by have := hW x hx; omega, by have := hG x hx; omega, by have := hG x hx; omega⟩) (by have := hW x68_ (List.mem_of_getElem? hx69_); refine ⟨?_, ?_, ?_, ?_, ?_, ?_⟩ <;> dsimp only <;> first | omega | (rw [strN_size', List.length_set]; omega))) (by first | assumption | omega) (by first | assumption | omega) (by first | assumption | omega) (by first | assumption | omega)) H175_ ?_)
                      rintro v177_ p181_ w178_ ⟨rfl, rfl⟩ S180_ H179_
                      replace H179_ : Holds w178_ (ro R170_ :: sl 5 1 (Value.slice (some ⟨b94_, 0, none⟩) x68_.kV_Key.size cp95_) (List.length (List.set (ints x68_.kV_Key) pN (ixor .u8 x135_ by_))) (bytesV (List.set (ints x68_.kV_Key) pN (ixor .u8 x135_ by_))) :: sl 5 1 (Value.slice (some ⟨b82_, 0, none⟩) x68_.kV_Value.size cp83_) (List.length (ints x68_.kV_Value)) (bytesV (ints x68_.kV_Value)) :: cl b72_ 42 [(Value.int .i64 x68_.rev_Main), (Value.int .i64 x68_.rev_Sub), (Value.bool x68_.gone), (Value.string (strN (List.set (ints x68_.kV_Key) pN (ixor .u8 x135_ by_)))), (Value.string x68_.kV_Value), (Value.int .i64 x68_.kV_Create), (Value.int .i64 x68_.kV_Mod), (Value.int .i64 x68_.kV_Version), (Value.int .i64 x68_.kV_Lease)] :: F) := H179_
                      have S182_ := Same.trans S169_ S180_
                      refine S_list (T_val (v := (Value.bool (decide (hash compact rev K L ≠ hash compact rev K (List.set L iN (⟨x68_.rev_Main, x68_.rev_Sub, x68_.gone, strN (List.set (ints x68_.kV_Key) pN (ixor .u8 x135_ by_)), x68_.kV_Value, x68_.kV_Create, x68_.kV_Mod, x68_.kV_Version, x68_.kV_Lease⟩ : RW)))))) (x_bin rfl rfl rfl) ?_)
                      refine S_list (T_val (v := (Value.bool (decide (hash compact rev K L ≠ hash compact rev K (List.set L iN (⟨x68_.rev_Main, x68_.rev_Sub, x68_.gone, strN (List.set (ints x68_.kV_Key) pN (ixor .u8 x135_ by_)), x68_.kV_Value, x68_.kV_Create, x68_.kV_Mod, x68_.kV_Version, x68_.kV_Lease⟩ : RW)))))) (x_move rfl) ?_)
                      rcases Bool.eq_false_or_eq_true (decide (hash compact rev K L ≠ hash compact rev K (List.set L iN (⟨x68_.rev_Main, x68_.rev_Sub, x68_.gone, strN (List.set (ints x68_.kV_Key) pN (ixor .u8 x135_ by_)), x68_.kV_Value, x68_.kV_Create, x68_.kV_Mod, x68_.kV_Version, x68_.kV_Lease⟩ : RW)))) with c183_t | c183_f
                      · have c183_tp : hash compact rev K L ≠ hash compact rev K (List.set L iN (⟨x68_.rev_Main, x68_.rev_Sub, x68_.gone, strN (List.set (ints x68_.kV_Key) pN (ixor .u8 x135_ by_)), x68_.kV_Value, x68_.kV_Create, x68_.kV_Mod, x68_.kV_Version, x68_.kV_Lease⟩ : RW)) := of_decide_eq_true c183_t
                        refine S_yes (j := 11) (dj := 118) (b := true) rfl rfl (congrArg Value.bool c183_t) (T_call (al := []) (pre := []) (F := sl 5 1 (Value.slice (some ⟨b94_, 0, none⟩) x68_.kV_Key.size cp95_) (List.length (List.set (ints x68_.kV_Key) pN (ixor .u8 x135_ by_))) (bytesV (List.set (ints x68_.kV_Key) pN (ixor .u8 x135_ by_))) :: sl 5 1 (Value.slice (some ⟨b82_, 0, none⟩) x68_.kV_Value.size cp83_) (List.length (ints x68_.kV_Value)) (bytesV (ints x68_.kV_Value)) :: cl b72_ 42 [(Value.int .i64 x68_.rev_Main), (Value.int .i64 x68_.rev_Sub), (Value.bool x68_.gone), (Value.string (strN (List.set (ints x68_.kV_Key) pN (ixor .u8 x135_ by_)))), (Value.string x68_.kV_Value), (Value.int .i64 x68_.kV_Create), (Value.int .i64 x68_.kV_Mod), (Value.int .i64 x68_.kV_Version), (Value.int .i64 x68_.kV_Lease)] :: F) rfl rfl cb13 (lTwo R170_) H179_ ?_)
                        rintro v184_ p188_ w185_ ⟨rfl, rfl⟩ S187_ H186_
                        replace H186_ : Holds w185_ (ro R170_ :: sl 5 1 (Value.slice (some ⟨b94_, 0, none⟩) x68_.kV_Key.size cp95_) (List.length (List.set (ints x68_.kV_Key) pN (ixor .u8 x135_ by_))) (bytesV (List.set (ints x68_.kV_Key) pN (ixor .u8 x135_ by_))) :: sl 5 1 (Value.slice (some ⟨b82_, 0, none⟩) x68_.kV_Value.size cp83_) (List.length (ints x68_.kV_Value)) (bytesV (ints x68_.kV_Value)) :: cl b72_ 42 [(Value.int .i64 x68_.rev_Main), (Value.int .i64 x68_.rev_Sub), (Value.bool x68_.gone), (Value.string (strN (List.set (ints x68_.kV_Key) pN (ixor .u8 x135_ by_)))), (Value.string x68_.kV_Value), (Value.int .i64 x68_.kV_Create), (Value.int .i64 x68_.kV_Mod), (Value.int .i64 x68_.kV_Version), (Value.int .i64 x68_.kV_Lease)] :: F) := H186_
                        have S189_ := Same.trans S182_ S187_
                        refine S_list (T_pickT (v := (Value.bool true)) (congrArg Value.bool c183_t) rfl ?_)
                        refine S_list (T_val (v := (Value.bool true)) (x_assign rfl) ?_)
                        refine wpList_nil ?_
                        refine (X_then (hK163_ _ _ ?_))
                        clear hK163_
                        refine C_ret ?_
                        refine R_any (v := (Value.bool true)) (run_results1 rfl rfl) ?_
                        have H190_ : Holds w185_ (ro R :: sl 5 1 (Value.slice (some ⟨b94_, 0, none⟩) x68_.kV_Key.size cp95_) (List.length (List.set (ints x68_.kV_Key) pN (ixor .u8 x135_ by_))) (bytesV (List.set (ints x68_.kV_Key) pN (ixor .u8 x135_ by_))) :: sl 5 1 (Value.slice (some ⟨b82_, 0, none⟩) x68_.kV_Value.size cp83_) (List.length (ints x68_.kV_Value)) (bytesV (ints x68_.kV_Value)) :: cl b72_ 42 [(Value.int .i64 x68_.rev_Main), (Value.int .i64 x68_.rev_Sub), (Value.bool x68_.gone), (Value.string (strN (List.set (ints x68_.kV_Key) pN (ixor .u8 x135_ by_)))), (Value.string x68_.kV_Value), (Value.int .i64 x68_.kV_Create), (Value.int .i64 x68_.kV_Mod), (Value.int .i64 x68_.kV_Version), (Value.int .i64 x68_.kV_Lease)] :: F) := Holds.ro_less H186_ hs171_
                        have H191_ : Holds w185_ (ro R :: F) := (Holds.erase (Holds.erase (Holds.erase (Holds.bring H190_ 0 rfl) 1) 1) 1)
                        exact ⟨_, [], rfl, ⟨rfl, rfl⟩, S189_, H191_⟩
                      · have c183_fp : ¬ (hash compact rev K L ≠ hash compact rev K (List.set L iN (⟨x68_.rev_Main, x68_.rev_Sub, x68_.gone, strN (List.set (ints x68_.kV_Key) pN (ixor .u8 x135_ by_)), x68_.kV_Value, x68_.kV_Create, x68_.kV_Mod, x68_.kV_Version, x68_.kV_Lease⟩ : RW))) := of_decide_eq_false c183_f
                        exact absurd (hash_ne (y := (⟨x68_.rev_Main, x68_.rev_Sub, x68_.gone, strN (List.set (ints x68_.kV_Key) pN (ixor .u8 x135_ by_)), x68_.kV_Value, x68_.kV_Create, x68_.kV_Mod, x68_.kV_Version, x68_.kV_Lease⟩ : RW)) hx69_ (he117_ (by simp_all)) rfl rfl rfl (vb_key (x := x68_) (y := (⟨x68_.rev_Main, x68_.rev_Sub, x68_.gone, strN (List.set (ints x68_.kV_Key) pN (ixor .u8 x135_ by_)), x68_.kV_Value, x68_.kV_Create, x68_.kV_Mod, x68_.kV_Version, x68_.kV_Lease⟩ : RW)) (off_set (byt_ints _) hx136_ ⟨hb0, hb1⟩ (by simp_all)) rfl rfl rfl rfl rfl)) c183_fp
                · skip
                  refine C_skip (X_then (hK91_ _ _ ?_))
                  clear hK91_
                  refine C_seq (fun K192_ hK192_ => ?_)
                  refine C_seq (fun K193_ hK193_ => ?_)
                  refine C_reg ?_
                  refine S_list (T_val (v := (Value.slice (some ⟨b82_, 0, none⟩) x68_.kV_Value.size cp83_)) (x_move rfl) ?_)
                  refine S_list (T_val (v := (Value.int .i64 (x68_.kV_Value.size : Int))) (x_lenS rfl Try.underlying43) ?_)
                  refine S_list (T_val (v := (Value.bool (decide ((x68_.kV_Value.size : Int) = 0)))) (x_bin rfl rfl rfl) ?_)
                  refine S_list (T_val (v := (Value.bool (decide ((x68_.kV_Value.size : Int) = 0)))) (x_move rfl) ?_)
                  rcases Bool.eq_false_or_eq_true (decide ((x68_.kV_Value.size : Int) = 0)) with c194_t | c194_f
                  · have c194_tp : (x68_.kV_Value.size : Int) = 0 := of_decide_eq_true c194_t
                    refine S_no (j := 3) (dj := 72) (b := true) rfl rfl (congrArg Value.bool c194_t) (by decide) ?_
                    refine S_no (j := 3) (dj := 72) (b := true) rfl rfl (congrArg Value.bool c194_t) (by decide) ?_
                    refine S_no (j := 3) (dj := 72) (b := true) rfl rfl (congrArg Value.bool c194_t) (by decide) ?_
                    refine S_no (j := 3) (dj := 72) (b := true) rfl rfl (congrArg Value.bool c194_t) (by decide) ?_
                    refine S_no (j := 3) (dj := 72) (b := true) rfl rfl (congrArg Value.bool c194_t) (by decide) ?_
                    refine S_no (j := 3) (dj := 72) (b := true) rfl rfl (congrArg Value.bool c194_t) (by decide) ?_
                    refine S_list (T_pickT (v := (Value.bool true)) (congrArg Value.bool c194_t) rfl ?_)
                    refine wpList_nil ?_
                    refine (X_then (hK193_ _ _ ?_))
                    clear hK193_
                    refine C_condT rfl ?_
                    refine C_seq (fun K195_ hK195_ => ?_)
                    refine C_reg ?_
                    have H197_ : Holds w84_ (ro R :: sl 5 1 (Value.slice (some ⟨b82_, 0, none⟩) x68_.kV_Value.size cp83_) (List.length (ints x68_.kV_Value)) (bytesV (ints x68_.kV_Value)) :: cl b72_ 42 [(Value.int .i64 x68_.rev_Main), (Value.int .i64 x68_.rev_Sub), (Value.bool x68_.gone), (Value.string x68_.kV_Key), (Value.string x68_.kV_Value), (Value.int .i64 x68_.kV_Create), (Value.int .i64 x68_.kV_Mod), (Value.int .i64 x68_.kV_Version), (Value.int .i64 x68_.kV_Lease)] :: F) := (Holds.bring H90_ 2 rfl)
                    refine S_list (T_call (al := []) (pre := []) (F := sl 5 1 (Value.slice (some ⟨b82_, 0, none⟩) x68_.kV_Value.size cp83_) (List.length (ints x68_.kV_Value)) (bytesV (ints x68_.kV_Value)) :: cl b72_ 42 [(Value.int .i64 x68_.rev_Main), (Value.int .i64 x68_.rev_Sub), (Value.bool x68_.gone), (Value.string x68_.kV_Key), (Value.string x68_.kV_Value), (Value.int .i64 x68_.kV_Create), (Value.int .i64 x68_.kV_Mod), (Value.int .i64 x68_.kV_Version), (Value.int .i64 x68_.kV_Lease)] :: F) rfl rfl cb13 (lTwo R) H197_ ?_)
                    rintro v196_ p201_ w198_ ⟨rfl, rfl⟩ S200_ H199_
                    replace H199_ : Holds w198_ (ro R :: sl 5 1 (Value.slice (some ⟨b82_, 0, none⟩) x68_.kV_Value.size cp83_) (List.length (ints x68_.kV_Value)) (bytesV (ints x68_.kV_Value)) :: cl b72_ 42 [(Value.int .i64 x68_.rev_Main), (Value.int .i64 x68_.rev_Sub), (Value.bool x68_.gone), (Value.string x68_.kV_Key), (Value.string x68_.kV_Value), (Value.int .i64 x68_.kV_Create), (Value.int .i64 x68_.kV_Mod), (Value.int .i64 x68_.kV_Version), (Value.int .i64 x68_.kV_Lease)] :: F) := H199_
                    have S202_ := Same.trans S88_ S200_
                    refine S_list (T_val (v := (Value.bool true)) (x_assign rfl) ?_)
                    refine wpList_nil ?_
                    refine (X_then (hK195_ _ _ ?_))
                    clear hK195_
                    refine C_ret (X_thenR ?_)
                    refine R_any (v := (Value.bool true)) (run_results1 rfl rfl) ?_
                    have H203_ : Holds w198_ (ro R :: F) := (Holds.erase (Holds.erase (Holds.bring H199_ 0 rfl) 1) 1)
                    exact ⟨_, [], rfl, ⟨rfl, rfl⟩, S202_, H203_⟩
                  · have c194_fp : ¬ ((x68_.kV_Value.size : Int) = 0) := of_decide_eq_false c194_f
                    refine S_yes (j := 3) (dj := 72) (b := false) rfl rfl (congrArg Value.bool c194_f) (T_val (v := (Value.agg #[(Value.int .i64 x68_.rev_Main), (Value.int .i64 x68_.rev_Sub), (Value.bool x68_.gone), (Value.string x68_.kV_Key), (Value.string x68_.kV_Value), (Value.int .i64 x68_.kV_Create), (Value.int .i64 x68_.kV_Mod), (Value.int .i64 x68_.kV_Version), (Value.int .i64 x68_.kV_Lease)])) (x_loadN (vs := [(Value.int .i64 x68_.rev_Main), (Value.int .i64 x68_.rev_Sub), (Value.bool x68_.gone), (Value.string x68_.kV_Key), (Value.string x68_.kV_Value), (Value.int .i64 x68_.kV_Create), (Value.int .i64 x68_.kV_Mod), (Value.int .i64 x68_.kV_Version), (Value.int .i64 x68_.kV_Lease)]) rfl Try.underlying42 rfl z42 rfl (Rd.cells (Holds.rd H90_ 1 rfl) 0 rfl)) ?_)
                    refine S_yes (j := 3) (dj := 72) (b := false) rfl rfl (congrArg Value.bool c194_f) (T_val (v := (Value.int .i64 compact)) (x_move rfl) ?_)
                    refine S_yes (j := 3) (dj := 72) (b := false) rfl rfl (congrArg Value.bool c194_f) (T_val (v := (Value.int .i64 rev)) (x_move rfl) ?_)
                    refine S_yes (j := 3) (dj := 72) (b := false) rfl rfl (congrArg Value.bool c194_f) (T_val (v := vk) (x_move rfl) ?_)
                    have H207_ : Holds w84_ (ro R :: sl 5 1 (Value.slice (some ⟨b82_, 0, none⟩) x68_.kV_Value.size cp83_) (List.length (ints x68_.kV_Value)) (bytesV (ints x68_.kV_Value)) :: cl b72_ 42 [(Value.int .i64 x68_.rev_Main), (Value.int .i64 x68_.rev_Sub), (Value.bool x68_.gone), (Value.string x68_.kV_Key), (Value.string x68_.kV_Value), (Value.int .i64 x68_.kV_Create), (Value.int .i64 x68_.kV_Mod), (Value.int .i64 x68_.kV_Version), (Value.int .i64 x68_.kV_Lease)] :: F) := (Holds.bring H90_ 2 rfl)
                    refine S_yes (j := 3) (dj := 72) (b := false) rfl rfl (congrArg Value.bool c194_f) (T_call (al := [(Value.agg #[(Value.int .i64 x68_.rev_Main), (Value.int .i64 x68_.rev_Sub), (Value.bool x68_.gone), (Value.string x68_.kV_Key), (Value.string x68_.kV_Value), (Value.int .i64 x68_.kV_Create), (Value.int .i64 x68_.kV_Mod), (Value.int .i64 x68_.kV_Version), (Value.int .i64 x68_.kV_Lease)]), (Value.int .i64 compact), (Value.int .i64 rev), vk]) (pre := []) (F := sl 5 1 (Value.slice (some ⟨b82_, 0, none⟩) x68_.kV_Value.size cp83_) (List.length (ints x68_.kV_Value)) (bytesV (ints x68_.kV_Value)) :: cl b72_ 42 [(Value.int .i64 x68_.rev_Main), (Value.int .i64 x68_.rev_Sub), (Value.bool x68_.gone), (Value.string x68_.kV_Key), (Value.string x68_.kV_Value), (Value.int .i64 x68_.kV_Create), (Value.int .i64 x68_.kV_Mod), (Value.int .i64 x68_.kV_Version), (Value.int .i64 x68_.kV_Lease)] :: F) rfl rfl cb14 (lCounts R x68_ compact rev vk K hKs (by first | assumption | omega)) H207_ ?_)
                    rintro v204_ p211_ w208_ ⟨b205_, rfl, rfl, he206_⟩ S210_ H209_
                    replace H209_ : Holds w208_ (ro R :: sl 5 1 (Value.slice (some ⟨b82_, 0, none⟩) x68_.kV_Value.size cp83_) (List.length (ints x68_.kV_Value)) (bytesV (ints x68_.kV_Value)) :: cl b72_ 42 [(Value.int .i64 x68_.rev_Main), (Value.int .i64 x68_.rev_Sub), (Value.bool x68_.gone), (Value.string x68_.kV_Key), (Value.string x68_.kV_Value), (Value.int .i64 x68_.kV_Create), (Value.int .i64 x68_.kV_Mod), (Value.int .i64 x68_.kV_Version), (Value.int .i64 x68_.kV_Lease)] :: F) := H209_
                    have S212_ := Same.trans S88_ S210_
                    refine S_yes (j := 3) (dj := 72) (b := false) rfl rfl (congrArg Value.bool c194_f) (T_val (v := (Value.bool (!b205_))) (x_not rfl) ?_)
                    refine S_list (T_pickF (v := (Value.bool (!b205_))) (congrArg Value.bool c194_f) rfl ?_)
                    refine wpList_nil ?_
                    refine (X_then (hK193_ _ _ ?_))
                    clear hK193_
                    refine C_cond (b := !b205_) rfl (fun c213_t => ?_) (fun c213_f => ?_)
                    · skip
                      refine C_seq (fun K214_ hK214_ => ?_)
                      refine C_reg ?_
                      refine S_list (T_call (al := []) (pre := []) (F := sl 5 1 (Value.slice (some ⟨b82_, 0, none⟩) x68_.kV_Value.size cp83_) (List.length (ints x68_.kV_Value)) (bytesV (ints x68_.kV_Value)) :: cl b72_ 42 [(Value.int .i64 x68_.rev_Main), (Value.int .i64 x68_.rev_Sub), (Value.bool x68_.gone), (Value.string x68_.kV_Key), (Value.string x68_.kV_Value), (Value.int .i64 x68_.kV_Create), (Value.int .i64 x68_.kV_Mod), (Value.int .i64 x68_.kV_Version), (Value.int .i64 x68_.kV_Lease)] :: F) rfl rfl cb13 (lTwo R) H209_ ?_)
                      rintro v215_ p219_ w216_ ⟨rfl, rfl⟩ S218_ H217_
                      replace H217_ : Holds w216_ (ro R :: sl 5 1 (Value.slice (some ⟨b82_, 0, none⟩) x68_.kV_Value.size cp83_) (List.length (ints x68_.kV_Value)) (bytesV (ints x68_.kV_Value)) :: cl b72_ 42 [(Value.int .i64 x68_.rev_Main), (Value.int .i64 x68_.rev_Sub), (Value.bool x68_.gone), (Value.string x68_.kV_Key), (Value.string x68_.kV_Value), (Value.int .i64 x68_.kV_Create), (Value.int .i64 x68_.kV_Mod), (Value.int .i64 x68_.kV_Version), (Value.int .i64 x68_.kV_Lease)] :: F) := H217_
                      have S220_ := Same.trans S212_ S218_
                      refine S_list (T_val (v := (Value.bool true)) (x_assign rfl) ?_)
                      refine wpList_nil ?_
                      refine (X_then (hK214_ _ _ ?_))
                      clear hK214_
                      refine C_ret (X_thenR ?_)
                      refine R_any (v := (Value.bool true)) (run_results1 rfl rfl) ?_
                      have H221_ : Holds w216_ (ro R :: F) := (Holds.erase (Holds.erase (Holds.bring H217_ 0 rfl) 1) 1)
                      exact ⟨_, [], rfl, ⟨rfl, rfl⟩, S220_, H221_⟩
                    · skip
                      refine C_skip (X_then (hK192_ _ _ ?_))
                      clear hK192_
                      refine C_seq (fun K222_ hK222_ => ?_)
                      refine C_reg ?_
                      refine S_list (T_val (v := (Value.slice (some ⟨b82_, 0, none⟩) x68_.kV_Value.size cp83_)) (x_move rfl) ?_)
                      refine S_list (T_val (v := (Value.int .i64 place)) (x_move rfl) ?_)
                      refine S_list (T_val (v := (Value.slice (some ⟨b82_, 0, none⟩) x68_.kV_Value.size cp83_)) (x_move rfl) ?_)
                      refine S_list (T_val (v := (Value.int .i64 (x68_.kV_Value.size : Int))) (x_lenS rfl Try.underlying43) ?_)
                      have hi1_ := ints_length x68_.kV_Key
                      have hi2_ := ints_length x68_.kV_Value
                      obtain ⟨pN, hpN⟩ : ∃ i, place.toNat % x68_.kV_Value.size = i := ⟨_, rfl⟩
                      have hpL : pN < x68_.kV_Value.size := hpN ▸ Nat.mod_lt _ (by omega)
                      refine S_list (T_val (v := (Value.int .i64 (pN : Int))) (x_bin rfl rfl (ib_remN (x := place.toNat) (y := x68_.kV_Value.size) (r := pN) (by omega) (by omega) (by omega) (by omega) hpN)) ?_)
                      have hr223_ := Holds.sl_RSw H209_ 1 rfl
                      refine S_list (T_val (v := (Value.pointer (some ⟨(sb (Value.slice (some ⟨b82_, 0, none⟩) x68_.kV_Value.size cp83_)), so (Value.slice (some ⟨b82_, 0, none⟩) x68_.kV_Value.size cp83_) + pN, none⟩))) (x_idxSlR (v := (Value.slice (some ⟨b82_, 0, none⟩) x68_.kV_Value.size cp83_)) rfl hr223_ rfl Try.underlying43 z5 (by omega) (by first | omega | exact Nat.mod_lt _ (by omega) | (simp only [ints_length]; exact Nat.mod_lt _ (by omega))) (by omega : _ = pN) (by rw [Nat.mul_one])) ?_)
                      obtain ⟨x224_, hx225_, hm226_⟩ := elem_at (ints x68_.kV_Value) pN (by first | omega | exact Nat.mod_lt _ (by omega) | (simp only [ints_length]; exact Nat.mod_lt _ (by omega)))
                      refine S_list (T_val (v := (Value.int .u8 x224_)) (x_load1 rfl Try.underlying5 rfl ((Holds.slrd H209_ 1 rfl) _ _ (map_at hx225_))) ?_)
                      refine S_list (T_val (v := (Value.int .u8 by_)) (x_move rfl) ?_)
                      refine S_list (T_val (v := (Value.int .u8 (ixor .u8 x224_ by_))) (x_bin rfl rfl rfl) ?_)
                      refine S_list (T_val (v := (Value.pointer (some ⟨(sb (Value.slice (some ⟨b82_, 0, none⟩) x68_.kV_Value.size cp83_)), so (Value.slice (some ⟨b82_, 0, none⟩) x68_.kV_Value.size cp83_) + pN, none⟩))) (x_idxSlR (v := (Value.slice (some ⟨b82_, 0, none⟩) x68_.kV_Value.size cp83_)) rfl hr223_ rfl Try.underlying43 z5 (by omega) (by first | omega | exact Nat.mod_lt _ (by omega) | (simp only [ints_length]; exact Nat.mod_lt _ (by omega))) (by omega : _ = pN) (by rw [Nat.mul_one])) ?_)
                      refine S_list0 (T_storeSl (v := (Value.slice (some ⟨b82_, 0, none⟩) x68_.kV_Value.size cp83_)) (u := (Value.int .u8 (ixor .u8 x224_ by_))) rfl rfl z5 rfl H209_ 1 rfl (by first | omega | (rw [bytesV_len, ints_length]; omega)) rfl rfl ?_)
                      intro w227_ S229_ H228_
                      replace H228_ : Holds w227_ (ro R :: sl 5 1 (Value.slice (some ⟨b82_, 0, none⟩) x68_.kV_Value.size cp83_) (List.length (ints x68_.kV_Value)) (List.set (bytesV (ints x68_.kV_Value)) pN (Value.int .u8 (ixor .u8 x224_ by_))) :: cl b72_ 42 [(Value.int .i64 x68_.rev_Main), (Value.int .i64 x68_.rev_Sub), (Value.bool x68_.gone), (Value.string x68_.kV_Key), (Value.string x68_.kV_Value), (Value.int .i64 x68_.kV_Create), (Value.int .i64 x68_.kV_Mod), (Value.int .i64 x68_.kV_Version), (Value.int .i64 x68_.kV_Lease)] :: F) := H228_
                      have S230_ := Same.trans S212_ S229_
                      have H231_ : Holds w227_ (ro R :: sl 5 1 (Value.slice (some ⟨b82_, 0, none⟩) x68_.kV_Value.size cp83_) (List.length (List.set (ints x68_.kV_Value) pN (ixor .u8 x224_ by_))) (bytesV (List.set (ints x68_.kV_Value) pN (ixor .u8 x224_ by_))) :: cl b72_ 42 [(Value.int .i64 x68_.rev_Main), (Value.int .i64 x68_.rev_Sub), (Value.bool x68_.gone), (Value.string x68_.kV_Key), (Value.string x68_.kV_Value), (Value.int .i64 x68_.kV_Create), (Value.int .i64 x68_.kV_Mod), (Value.int .i64 x68_.kV_Version), (Value.int .i64 x68_.kV_Lease)] :: F) := cast2 (P := fun (c__ : List Value) (k__ : Nat) => Holds w227_ (ro R :: sl 5 1 (Value.slice (some ⟨b82_, 0, none⟩) x68_.kV_Value.size cp83_) k__ c__ :: cl b72_ 42 [(Value.int .i64 x68_.rev_Main), (Value.int .i64 x68_.rev_Sub), (Value.bool x68_.gone), (Value.string x68_.kV_Key), (Value.string x68_.kV_Value), (Value.int .i64 x68_.kV_Create), (Value.int .i64 x68_.kV_Mod), (Value.int .i64 x68_.kV_Version), (Value.int .i64 x68_.kV_Lease)] :: F)) (bytesV_set _ _ _ : List.set (bytesV (ints x68_.kV_Value)) pN (Value.int .u8 (ixor .u8 x224_ by_)) = bytesV (List.set (ints x68_.kV_Value) pN (ixor .u8 x224_ by_))) (by simp : (List.length (ints x68_.kV_Value)) = (List.length (List.set (ints x68_.kV_Value) pN (ixor .u8 x224_ by_)))) H228_
                      refine wpList_nil ?_
                      refine (X_then (hK222_ _ _ ?_))
                      clear hK222_
                      refine C_seq (fun K232_ hK232_ => ?_)
                      refine C_seq (fun K233_ hK233_ => ?_)
                      refine C_reg ?_
                      refine S_list (T_val (v := (Value.pointer (some ⟨b72_, 2, none⟩))) (by kernel_rfl) ?_)
                      refine S_list (T_val (v := (Value.bool x68_.gone)) (x_load1 rfl Try.underlying4 rfl ((Holds.rd H231_ 2 rfl) 2 (Value.bool x68_.gone) rfl)) ?_)
                      refine wpList_nil ?_
                      refine (X_then (hK233_ _ _ ?_))
                      clear hK233_
                      refine C_condF (congrArg Value.bool c93_f) ?_
                      refine C_reg ?_
                      refine S_list (T_val (v := (Value.slice (some ⟨b82_, 0, none⟩) x68_.kV_Value.size cp83_)) (x_move rfl) ?_)
                      refine S_list (T_val (v := (Value.string (strN (List.set (ints x68_.kV_Value) pN (ixor .u8 x224_ by_))))) (x_b2sSl rfl H231_ 1 rfl Try.underlying43 Try.underlying5 Try.underlying9) ?_)
                      refine S_list (T_val (v := (Value.pointer (some ⟨b72_, 3, none⟩))) (by kernel_rfl) ?_)
                      refine S_list (T_val (v := (Value.pointer (some ⟨b72_, 4, none⟩))) (by kernel_rfl) ?_)
                      refine S_list0 (T_store1 (v := (Value.string (strN (List.set (ints x68_.kV_Value) pN (ixor .u8 x224_ by_))))) rfl rfl z9 rfl H231_ 2 rfl (Nat.le_of_ble_eq_true (by rfl)) ?_)
                      intro w234_ S236_ H235_
                      replace H235_ : Holds w234_ (ro R :: sl 5 1 (Value.slice (some ⟨b82_, 0, none⟩) x68_.kV_Value.size cp83_) (List.length (List.set (ints x68_.kV_Value) pN (ixor .u8 x224_ by_))) (bytesV (List.set (ints x68_.kV_Value) pN (ixor .u8 x224_ by_))) :: cl b72_ 42 [(Value.int .i64 x68_.rev_Main), (Value.int .i64 x68_.rev_Sub), (Value.bool x68_.gone), (Value.string x68_.kV_Key), (Value.string (strN (List.set (ints x68_.kV_Value) pN (ixor .u8 x224_ by_)))), (Value.int .i64 x68_.kV_Create), (Value.int .i64 x68_.kV_Mod), (Value.int .i64 x68_.kV_Version), (Value.int .i64 x68_.kV_Lease)] :: F) := H235_
                      have S237_ := Same.trans S230_ S236_
                      refine wpList_nil ?_
                      refine (X_then (hK232_ _ _ ?_))
                      clear hK232_
                      refine C_seq (fun K238_ hK238_ => ?_)
                      refine C_reg ?_
                      refine S_list (T_val (v := v) (x_move rfl) ?_)
                      refine S_list (T_call (al := [v]) (pre := []) (F := sl 5 1 (Value.slice (some ⟨b82_, 0, none⟩) x68_.kV_Value.size cp83_) (List.length (List.set (ints x68_.kV_Value) pN (ixor .u8 x224_ by_))) (bytesV (List.set (ints x68_.kV_Value) pN (ixor .u8 x224_ by_))) :: cl b72_ 42 [(Value.int .i64 x68_.rev_Main), (Value.int .i64 x68_.rev_Sub), (Value.bool x68_.gone), (Value.string x68_.kV_Key), (Value.string (strN (List.set (ints x68_.kV_Value) pN (ixor .u8 x224_ by_)))), (Value.int .i64 x68_.kV_Create), (Value.int .i64 x68_.kV_Mod), (Value.int .i64 x68_.kV_Version), (Value.int .i64 x68_.kV_Lease)] :: F) rfl rfl cb15 (hClone R v L hL (by first | assumption | omega)) H235_ ?_)
                      rintro v239_ p243_ w240_ ⟨_, rfl, rfl⟩ S242_ H241_
                      replace H241_ : Holds w240_ (ro R :: sl 42 9 v239_ (List.length L) (L.flatMap RW.cells) :: sl 5 1 (Value.slice (some ⟨b82_, 0, none⟩) x68_.kV_Value.size cp83_) (List.length (List.set (ints x68_.kV_Value) pN (ixor .u8 x224_ by_))) (bytesV (List.set (ints x68_.kV_Value) pN (ixor .u8 x224_ by_))) :: cl b72_ 42 [(Value.int .i64 x68_.rev_Main), (Value.int .i64 x68_.rev_Sub), (Value.bool x68_.gone), (Value.string x68_.kV_Key), (Value.string (strN (List.set (ints x68_.kV_Value) pN (ixor .u8 x224_ by_)))), (Value.int .i64 x68_.kV_Create), (Value.int .i64 x68_.kV_Mod), (Value.int .i64 x68_.kV_Version), (Value.int .i64 x68_.kV_Lease)] :: F) := H241_
                      have S244_ := Same.trans S237_ S242_
                      refine S_list (T_val (v := v239_) (x_assign rfl) ?_)
                      refine wpList_nil ?_
                      refine (X_then (hK238_ _ _ ?_))
                      clear hK238_
                      refine C_seq (fun K245_ hK245_ => ?_)
                      refine C_reg ?_
                      refine S_list (T_val (v := v239_) (x_move rfl) ?_)
                      refine S_list (T_val (v := (Value.int .i64 (iN : Int))) (x_move rfl) ?_)
                      refine S_list (T_val (v := (Value.agg #[(Value.int .i64 x68_.rev_Main), (Value.int .i64 x68_.rev_Sub), (Value.bool x68_.gone), (Value.string x68_.kV_Key), (Value.string (strN (List.set (ints x68_.kV_Value) pN (ixor .u8 x224_ by_)))), (Value.int .i64 x68_.kV_Create), (Value.int .i64 x68_.kV_Mod), (Value.int .i64 x68_.kV_Version), (Value.int .i64 x68_.kV_Lease)])) (x_loadN (vs := [(Value.int .i64 x68_.rev_Main), (Value.int .i64 x68_.rev_Sub), (Value.bool x68_.gone), (Value.string x68_.kV_Key), (Value.string (strN (List.set (ints x68_.kV_Value) pN (ixor .u8 x224_ by_)))), (Value.int .i64 x68_.kV_Create), (Value.int .i64 x68_.kV_Mod), (Value.int .i64 x68_.kV_Version), (Value.int .i64 x68_.kV_Lease)]) rfl Try.underlying42 rfl z42 rfl (Rd.cells (Holds.rd H241_ 3 rfl) 0 rfl)) ?_)
                      have hr246_ := Holds.sl_RSw H241_ 1 rfl
                      refine S_list (T_val (v := (Value.pointer (some ⟨(sb v239_), so v239_ + (iN * 9 + 0), none⟩))) (x_idxSlR (v := v239_) rfl hr246_ rfl Try.underlying34 z42 (by omega) (by first | omega | exact Nat.mod_lt _ (by omega) | (simp only [ints_length]; exact Nat.mod_lt _ (by omega))) (by omega : _ = iN) rfl) ?_)
                      refine S_list0 (T_storeSlN (vs := [(Value.int .i64 x68_.rev_Main), (Value.int .i64 x68_.rev_Sub), (Value.bool x68_.gone), (Value.string x68_.kV_Key), (Value.string (strN (List.set (ints x68_.kV_Value) pN (ixor .u8 x224_ by_)))), (Value.int .i64 x68_.kV_Create), (Value.int .i64 x68_.kV_Mod), (Value.int .i64 x68_.kV_Version), (Value.int .i64 x68_.kV_Lease)]) (k := iN * 9) rfl rfl z42 rfl (by simp [Value.oneCell']) H241_ 1 rfl (by rw [rw_flen]; show _ + 9 ≤ _; omega) (Nat.zero_lt_succ _) rfl rfl ?_)
                      intro w247_ S249_ H248_
                      replace H248_ : Holds w247_ (ro R :: sl 42 9 v239_ (List.length L) (List.take (iN * 9) (L.flatMap RW.cells) ++ [(Value.int .i64 x68_.rev_Main), (Value.int .i64 x68_.rev_Sub), (Value.bool x68_.gone), (Value.string x68_.kV_Key), (Value.string (strN (List.set (ints x68_.kV_Value) pN (ixor .u8 x224_ by_)))), (Value.int .i64 x68_.kV_Create), (Value.int .i64 x68_.kV_Mod), (Value.int .i64 x68_.kV_Version), (Value.int .i64 x68_.kV_Lease)] ++ List.drop (iN * 9 + List.length [(Value.int .i64 x68_.rev_Main), (Value.int .i64 x68_.rev_Sub), (Value.bool x68_.gone), (Value.string x68_.kV_Key), (Value.string (strN (List.set (ints x68_.kV_Value) pN (ixor .u8 x224_ by_)))), (Value.int .i64 x68_.kV_Create), (Value.int .i64 x68_.kV_Mod), (Value.int .i64 x68_.kV_Version), (Value.int .i64 x68_.kV_Lease)]) (L.flatMap RW.cells)) :: sl 5 1 (Value.slice (some ⟨b82_, 0, none⟩) x68_.kV_Value.size cp83_) (List.length (List.set (ints x68_.kV_Value) pN (ixor .u8 x224_ by_))) (bytesV (List.set (ints x68_.kV_Value) pN (ixor .u8 x224_ by_))) :: cl b72_ 42 [(Value.int .i64 x68_.rev_Main), (Value.int .i64 x68_.rev_Sub), (Value.bool x68_.gone), (Value.string x68_.kV_Key), (Value.string (strN (List.set (ints x68_.kV_Value) pN (ixor .u8 x224_ by_)))), (Value.int .i64 x68_.kV_Create), (Value.int .i64 x68_.kV_Mod), (Value.int .i64 x68_.kV_Version), (Value.int .i64 x68_.kV_Lease)] :: F) := H248_
                      have S250_ := Same.trans S244_ S249_
                      have H251_ : Holds w247_ (ro R :: sl 42 9 v239_ (List.length (List.set L iN (⟨x68_.rev_Main, x68_.rev_Sub, x68_.gone, x68_.kV_Key, strN (List.set (ints x68_.kV_Value) pN (ixor .u8 x224_ by_)), x68_.kV_Create, x68_.kV_Mod, x68_.kV_Version, x68_.kV_Lease⟩ : RW))) ((List.set L iN (⟨x68_.rev_Main, x68_.rev_Sub, x68_.gone, x68_.kV_Key, strN (List.set (ints x68_.kV_Value) pN (ixor .u8 x224_ by_)), x68_.kV_Create, x68_.kV_Mod, x68_.kV_Version, x68_.kV_Lease⟩ : RW)).flatMap RW.cells) :: sl 5 1 (Value.slice (some ⟨b82_, 0, none⟩) x68_.kV_Value.size cp83_) (List.length (List.set (ints x68_.kV_Value) pN (ixor .u8 x224_ by_))) (bytesV (List.set (ints x68_.kV_Value) pN (ixor .u8 x224_ by_))) :: cl b72_ 42 [(Value.int .i64 x68_.rev_Main), (Value.int .i64 x68_.rev_Sub), (Value.bool x68_.gone), (Value.string x68_.kV_Key), (Value.string (strN (List.set (ints x68_.kV_Value) pN (ixor .u8 x224_ by_)))), (Value.int .i64 x68_.kV_Create), (Value.int .i64 x68_.kV_Mod), (Value.int .i64 x68_.kV_Version), (Value.int .i64 x68_.kV_Lease)] :: F) := cast2 (P := fun (c__ : List Value) (k__ : Nat) => Holds w247_ (ro R :: sl 42 9 v239_ k__ c__ :: sl 5 1 (Value.slice (some ⟨b82_, 0, none⟩) x68_.kV_Value.size cp83_) (List.length (List.set (ints x68_.kV_Value) pN (ixor .u8 x224_ by_))) (bytesV (List.set (ints x68_.kV_Value) pN (ixor .u8 x224_ by_))) :: cl b72_ 42 [(Value.int .i64 x68_.rev_Main), (Value.int .i64 x68_.rev_Sub), (Value.bool x68_.gone), (Value.string x68_.kV_Key), (Value.string (strN (List.set (ints x68_.kV_Value) pN (ixor .u8 x224_ by_)))), (Value.int .i64 x68_.kV_Create), (Value.int .i64 x68_.kV_Mod), (Value.int .i64 x68_.kV_Version), (Value.int .i64 x68_.kV_Lease)] :: F)) (rw_set L _ (⟨x68_.rev_Main, x68_.rev_Sub, x68_.gone, x68_.kV_Key, strN (List.set (ints x68_.kV_Value) pN (ixor .u8 x224_ by_)), x68_.kV_Create, x68_.kV_Mod, x68_.kV_Version, x68_.kV_Lease⟩ : RW) hiL : List.take (iN * 9) (L.flatMap RW.cells) ++ [(Value.int .i64 x68_.rev_Main), (Value.int .i64 x68_.rev_Sub), (Value.bool x68_.gone), (Value.string x68_.kV_Key), (Value.string (strN (List.set (ints x68_.kV_Value) pN (ixor .u8 x224_ by_)))), (Value.int .i64 x68_.kV_Create), (Value.int .i64 x68_.kV_Mod), (Value.int .i64 x68_.kV_Version), (Value.int .i64 x68_.kV_Lease)] ++ List.drop (iN * 9 + List.length [(Value.int .i64 x68_.rev_Main), (Value.int .i64 x68_.rev_Sub), (Value.bool x68_.gone), (Value.string x68_.kV_Key), (Value.string (strN (List.set (ints x68_.kV_Value) pN (ixor .u8 x224_ by_)))), (Value.int .i64 x68_.kV_Create), (Value.int .i64 x68_.kV_Mod), (Value.int .i64 x68_.kV_Version), (Value.int .i64 x68_.kV_Lease)]) (L.flatMap RW.cells) = (List.set L iN (⟨x68_.rev_Main, x68_.rev_Sub, x68_.gone, x68_.kV_Key, strN (List.set (ints x68_.kV_Value) pN (ixor .u8 x224_ by_)), x68_.kV_Create, x68_.kV_Mod, x68_.kV_Version, x68_.kV_Lease⟩ : RW)).flatMap RW.cells) ((List.length_set ..).symm : (List.length L) = (List.length (List.set L iN (⟨x68_.rev_Main, x68_.rev_Sub, x68_.gone, x68_.kV_Key, strN (List.set (ints x68_.kV_Value) pN (ixor .u8 x224_ by_)), x68_.kV_Create, x68_.kV_Mod, x68_.kV_Version, x68_.kV_Lease⟩ : RW)))) H248_
                      refine wpList_nil ?_
                      refine (X_then (hK245_ _ _ ?_))
                      clear hK245_
                      refine C_seq (fun K252_ hK252_ => ?_)
                      refine C_reg ?_
                      refine S_list (T_val (v := (Value.int .i64 compact)) (x_move rfl) ?_)
                      refine S_list (T_val (v := (Value.int .i64 rev)) (x_move rfl) ?_)
                      refine S_list (T_val (v := vk) (x_move rfl) ?_)
                      refine S_list (T_val (v := v) (x_move rfl) ?_)
                      refine S_list (T_call (al := [(Value.int .i64 compact), (Value.int .i64 rev), vk, v]) (pre := []) (F := sl 42 9 v239_ (List.length (List.set L iN (⟨x68_.rev_Main, x68_.rev_Sub, x68_.gone, x68_.kV_Key, strN (List.set (ints x68_.kV_Value) pN (ixor .u8 x224_ by_)), x68_.kV_Create, x68_.kV_Mod, x68_.kV_Version, x68_.kV_Lease⟩ : RW))) ((List.set L iN (⟨x68_.rev_Main, x68_.rev_Sub, x68_.gone, x68_.kV_Key, strN (List.set (ints x68_.kV_Value) pN (ixor .u8 x224_ by_)), x68_.kV_Create, x68_.kV_Mod, x68_.kV_Version, x68_.kV_Lease⟩ : RW)).flatMap RW.cells) :: sl 5 1 (Value.slice (some ⟨b82_, 0, none⟩) x68_.kV_Value.size cp83_) (List.length (List.set (ints x68_.kV_Value) pN (ixor .u8 x224_ by_))) (bytesV (List.set (ints x68_.kV_Value) pN (ixor .u8 x224_ by_))) :: cl b72_ 42 [(Value.int .i64 x68_.rev_Main), (Value.int .i64 x68_.rev_Sub), (Value.bool x68_.gone), (Value.string x68_.kV_Key), (Value.string (strN (List.set (ints x68_.kV_Value) pN (ixor .u8 x224_ by_)))), (Value.int .i64 x68_.kV_Create), (Value.int .i64 x68_.kV_Mod), (Value.int .i64 x68_.kV_Version), (Value.int .i64 x68_.kV_Lease)] :: F) rfl rfl cb16 (hHasher R compact rev vk v K L hKs hL (by first | assumption | omega) (by first | assumption | omega) (fun x hx => by have h1 := hG x hx; have h2 := hW x hx; exact ⟨by omega, by omega, by omega, by omega, by omega, by omega⟩) (by first | assumption | omega) (by first | assumption | omega) (by first | assumption | omega) (by first | assumption | omega)) H251_ ?_)
                      rintro v253_ p257_ w254_ ⟨rfl, rfl⟩ S256_ H255_
                      replace H255_ : Holds w254_ (ro R :: sl 42 9 v239_ (List.length (List.set L iN (⟨x68_.rev_Main, x68_.rev_Sub, x68_.gone, x68_.kV_Key, strN (List.set (ints x68_.kV_Value) pN (ixor .u8 x224_ by_)), x68_.kV_Create, x68_.kV_Mod, x68_.kV_Version, x68_.kV_Lease⟩ : RW))) ((List.set L iN (⟨x68_.rev_Main, x68_.rev_Sub, x68_.gone, x68_.kV_Key, strN (List.set (ints x68_.kV_Value) pN (ixor .u8 x224_ by_)), x68_.kV_Create, x68_.kV_Mod, x68_.kV_Version, x68_.kV_Lease⟩ : RW)).flatMap RW.cells) :: sl 5 1 (Value.slice (some ⟨b82_, 0, none⟩) x68_.kV_Value.size cp83_) (List.length (List.set (ints x68_.kV_Value) pN (ixor .u8 x224_ by_))) (bytesV (List.set (ints x68_.kV_Value) pN (ixor .u8 x224_ by_))) :: cl b72_ 42 [(Value.int .i64 x68_.rev_Main), (Value.int .i64 x68_.rev_Sub), (Value.bool x68_.gone), (Value.string x68_.kV_Key), (Value.string (strN (List.set (ints x68_.kV_Value) pN (ixor .u8 x224_ by_)))), (Value.int .i64 x68_.kV_Create), (Value.int .i64 x68_.kV_Mod), (Value.int .i64 x68_.kV_Version), (Value.int .i64 x68_.kV_Lease)] :: F) := H255_
                      have S258_ := Same.trans S250_ S256_
                      refine S_list (T_val (v := (Value.int .i64 compact)) (x_move rfl) ?_)
                      refine S_list (T_val (v := (Value.int .i64 rev)) (x_move rfl) ?_)
                      refine S_list (T_val (v := vk) (x_move rfl) ?_)
                      refine S_list (T_val (v := v239_) (x_move rfl) ?_)
                      obtain ⟨R259_, hs260_, ⟨R261_, ha262_, hs263_⟩, H264_⟩ := Holds.gift H255_
                      replace H264_ : Holds w254_ (ro R259_ :: sl 5 1 (Value.slice (some ⟨b82_, 0, none⟩) x68_.kV_Value.size cp83_) (List.length (List.set (ints x68_.kV_Value) pN (ixor .u8 x224_ by_))) (bytesV (List.set (ints x68_.kV_Value) pN (ixor .u8 x224_ by_))) :: cl b72_ 42 [(Value.int .i64 x68_.rev_Main), (Value.int .i64 x68_.rev_Sub), (Value.bool x68_.gone), (Value.string x68_.kV_Key), (Value.string (strN (List.set (ints x68_.kV_Value) pN (ixor .u8 x224_ by_)))), (Value.int .i64 x68_.kV_Create), (Value.int .i64 x68_.kV_Mod), (Value.int .i64 x68_.kV_Version), (Value.int .i64 x68_.kV_Lease)] :: F) := H264_
                      have hr265_ : RS R259_ 9 v239_ (List.length (List.set L iN (⟨x68_.rev_Main, x68_.rev_Sub, x68_.gone, x68_.kV_Key, strN (List.set (ints x68_.kV_Value) pN (ixor .u8 x224_ by_)), x68_.kV_Create, x68_.kV_Mod, x68_.kV_Version, x68_.kV_Lease⟩ : RW))) ((List.set L iN (⟨x68_.rev_Main, x68_.rev_Sub, x68_.gone, x68_.kV_Key, strN (List.set (ints x68_.kV_Value) pN (ixor .u8 x224_ by_)), x68_.kV_Create, x68_.kV_Mod, x68_.kV_Version, x68_.kV_Lease⟩ : RW)).flatMap RW.cells) := (sl_RS ha262_ (Sub.rfl' _)).mono hs263_
                      refine S_list (T_call (al := [(Value.int .i64 compact), (Value.int .i64 rev), vk, v239_]) (pre := []) (F := sl 5 1 (Value.slice (some ⟨b82_, 0, none⟩) x68_.kV_Value.size cp83_) (List.length (List.set (ints x68_.kV_Value) pN (ixor .u8 x224_ by_))) (bytesV (List.set (ints x68_.kV_Value) pN (ixor .u8 x224_ by_))) :: cl b72_ 42 [(Value.int .i64 x68_.rev_Main), (Value.int .i64 x68_.rev_Sub), (Value.bool x68_.gone), (Value.string x68_.kV_Key), (Value.string (strN (List.set (ints x68_.kV_Value) pN (ixor .u8 x224_ by_)))), (Value.int .i64 x68_.kV_Create), (Value.int .i64 x68_.kV_Mod), (Value.int .i64 x68_.kV_Version), (Value.int .i64 x68_.kV_Lease)] :: F) rfl rfl cb16 (hHasher R259_ compact rev vk v239_ K (List.set L iN (⟨x68_.rev_Main, x68_.rev_Sub, x68_.gone, x68_.kV_Key, strN (List.set (ints x68_.kV_Value) pN (ixor .u8 x224_ by_)), x68_.kV_Create, x68_.kV_Mod, x68_.kV_Version, x68_.kV_Lease⟩ : RW)) (RS.mono hKs hs260_) (RS.set_ hr265_ rfl (by first | rfl | omega | (simp; done) | (simp; omega))) (by rw [List.length_set]; omega) (by first | assumption | omega) (set_ok (fun x hx => ⟨by have := hG x hx; omega, by have := hW x hx; omega, by have := hG x hx; omega, by have := hW x hx; omega, by have := hG x hx; omega, by have := hG x hx; omega⟩) (by have := hW x68_ (List.mem_of_getElem? hx69_); refine ⟨?_, ?_, ?_, ?_, ?_, ?_⟩ <;> dsimp only <;> first | omega | (rw [strN_size', List.length_set]; omega))) (by first | assumption | omega) (by first | assumption | omega) (by first | assumption | omega) (by first | assumption | omega)) H264_ ?_)
                      rintro v266_ p270_ w267_ ⟨rfl, rfl⟩ S269_ H268_
                      replace H268_ : Holds w267_ (ro R259_ :: sl 5 1 (Value.slice (some ⟨b82_, 0, none⟩) x68_.kV_Value.size cp83_) (List.length (List.set (ints x68_.kV_Value) pN (ixor .u8 x224_ by_))) (bytesV (List.set (ints x68_.kV_Value) pN (ixor .u8 x224_ by_))) :: cl b72_ 42 [(Value.int .i64 x68_.rev_Main), (Value.int .i64 x68_.rev_Sub), (Value.bool x68_.gone), (Value.string x68_.kV_Key), (Value.string (strN (List.set (ints x68_.kV_Value) pN (ixor .u8 x224_ by_)))), (Value.int .i64 x68_.kV_Create), (Value.int .i64 x68_.kV_Mod), (Value.int .i64 x68_.kV_Version), (Value.int .i64 x68_.kV_Lease)] :: F) := H268_
                      have S271_ := Same.trans S258_ S269_
                      refine S_list (T_val (v := (Value.bool (decide (hash compact rev K L ≠ hash compact rev K (List.set L iN (⟨x68_.rev_Main, x68_.rev_Sub, x68_.gone, x68_.kV_Key, strN (List.set (ints x68_.kV_Value) pN (ixor .u8 x224_ by_)), x68_.kV_Create, x68_.kV_Mod, x68_.kV_Version, x68_.kV_Lease⟩ : RW)))))) (x_bin rfl rfl rfl) ?_)
                      refine S_list (T_val (v := (Value.bool (decide (hash compact rev K L ≠ hash compact rev K (List.set L iN (⟨x68_.rev_Main, x68_.rev_Sub, x68_.gone, x68_.kV_Key, strN (List.set (ints x68_.kV_Value) pN (ixor .u8 x224_ by_)), x68_.kV_Create, x68_.kV_Mod, x68_.kV_Version, x68_.kV_Lease⟩ : RW)))))) (x_move rfl) ?_)
                      rcases Bool.eq_false_or_eq_true (decide (hash compact rev K L ≠ hash compact rev K (List.set L iN (⟨x68_.rev_Main, x68_.rev_Sub, x68_.gone, x68_.kV_Key, strN (List.set (ints x68_.kV_Value) pN (ixor .u8 x224_ by_)), x68_.kV_Create, x68_.kV_Mod, x68_.kV_Version, x68_.kV_Lease⟩ : RW)))) with c272_t | c272_f
                      · have c272_tp : hash compact rev K L ≠ hash compact rev K (List.set L iN (⟨x68_.rev_Main, x68_.rev_Sub, x68_.gone, x68_.kV_Key, strN (List.set (ints x68_.kV_Value) pN (ixor .u8 x224_ by_)), x68_.kV_Create, x68_.kV_Mod, x68_.kV_Version, x68_.kV_Lease⟩ : RW)) := of_decide_eq_true c272_t
                        refine S_yes (j := 11) (dj := 118) (b := true) rfl rfl (congrArg Value.bool c272_t) (T_call (al := []) (pre := []) (F := sl 5 1 (Value.slice (some ⟨b82_, 0, none⟩) x68_.kV_Value.size cp83_) (List.length (List.set (ints x68_.kV_Value) pN (ixor .u8 x224_ by_))) (bytesV (List.set (ints x68_.kV_Value) pN (ixor .u8 x224_ by_))) :: cl b72_ 42 [(Value.int .i64 x68_.rev_Main), (Value.int .i64 x68_.rev_Sub), (Value.bool x68_.gone), (Value.string x68_.kV_Key), (Value.string (strN (List.set (ints x68_.kV_Value) pN (ixor .u8 x224_ by_)))), (Value.int .i64 x68_.kV_Create), (Value.int .i64 x68_.kV_Mod), (Value.int .i64 x68_.kV_Version), (Value.int .i64 x68_.kV_Lease)] :: F) rfl rfl cb13 (lTwo R259_) H268_ ?_)
                        rintro v273_ p277_ w274_ ⟨rfl, rfl⟩ S276_ H275_
                        replace H275_ : Holds w274_ (ro R259_ :: sl 5 1 (Value.slice (some ⟨b82_, 0, none⟩) x68_.kV_Value.size cp83_) (List.length (List.set (ints x68_.kV_Value) pN (ixor .u8 x224_ by_))) (bytesV (List.set (ints x68_.kV_Value) pN (ixor .u8 x224_ by_))) :: cl b72_ 42 [(Value.int .i64 x68_.rev_Main), (Value.int .i64 x68_.rev_Sub), (Value.bool x68_.gone), (Value.string x68_.kV_Key), (Value.string (strN (List.set (ints x68_.kV_Value) pN (ixor .u8 x224_ by_)))), (Value.int .i64 x68_.kV_Create), (Value.int .i64 x68_.kV_Mod), (Value.int .i64 x68_.kV_Version), (Value.int .i64 x68_.kV_Lease)] :: F) := H275_
                        have S278_ := Same.trans S271_ S276_
                        refine S_list (T_pickT (v := (Value.bool true)) (congrArg Value.bool c272_t) rfl ?_)
                        refine S_list (T_val (v := (Value.bool true)) (x_assign rfl) ?_)
                        refine wpList_nil ?_
                        refine (X_then (hK252_ _ _ ?_))
                        clear hK252_
                        refine C_ret ?_
                        refine R_any (v := (Value.bool true)) (run_results1 rfl rfl) ?_
                        have H279_ : Holds w274_ (ro R :: sl 5 1 (Value.slice (some ⟨b82_, 0, none⟩) x68_.kV_Value.size cp83_) (List.length (List.set (ints x68_.kV_Value) pN (ixor .u8 x224_ by_))) (bytesV (List.set (ints x68_.kV_Value) pN (ixor .u8 x224_ by_))) :: cl b72_ 42 [(Value.int .i64 x68_.rev_Main), (Value.int .i64 x68_.rev_Sub), (Value.bool x68_.gone), (Value.string x68_.kV_Key), (Value.string (strN (List.set (ints x68_.kV_Value) pN (ixor .u8 x224_ by_)))), (Value.int .i64 x68_.kV_Create), (Value.int .i64 x68_.kV_Mod), (Value.int .i64 x68_.kV_Version), (Value.int .i64 x68_.kV_Lease)] :: F) := Holds.ro_less H275_ hs260_
                        have H280_ : Holds w274_ (ro R :: F) := (Holds.erase (Holds.erase (Holds.bring H279_ 0 rfl) 1) 1)
                        exact ⟨_, [], rfl, ⟨rfl, rfl⟩, S278_, H280_⟩
                      · have c272_fp : ¬ (hash compact rev K L ≠ hash compact rev K (List.set L iN (⟨x68_.rev_Main, x68_.rev_Sub, x68_.gone, x68_.kV_Key, strN (List.set (ints x68_.kV_Value) pN (ixor .u8 x224_ by_)), x68_.kV_Create, x68_.kV_Mod, x68_.kV_Version, x68_.kV_Lease⟩ : RW))) := of_decide_eq_false c272_f
                        exact absurd (hash_ne (y := (⟨x68_.rev_Main, x68_.rev_Sub, x68_.gone, x68_.kV_Key, strN (List.set (ints x68_.kV_Value) pN (ixor .u8 x224_ by_)), x68_.kV_Create, x68_.kV_Mod, x68_.kV_Version, x68_.kV_Lease⟩ : RW)) hx69_ (he206_ (by simp_all)) rfl rfl rfl (vb_val (x := x68_) (y := (⟨x68_.rev_Main, x68_.rev_Sub, x68_.gone, x68_.kV_Key, strN (List.set (ints x68_.kV_Value) pN (ixor .u8 x224_ by_)), x68_.kV_Create, x68_.kV_Mod, x68_.kV_Version, x68_.kV_Lease⟩ : RW)) (off_set (byt_ints _) hx225_ ⟨hb0, hb1⟩ (by simp_all)) rfl rfl rfl rfl rfl)) c272_fp
end Go.Proofs.Ytgeggiebefonhaa
