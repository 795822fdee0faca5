/- What the functions over transactions come to: transactions of the protocol, and their kinds. -/
import Derived.Test.YtfdnfnjmphjdnaaKdB0
set_option linter.unusedVariables false
set_option linter.unusedSimpArgs false
namespace Go.Proofs.Ytfdnfnjmphjdnaa
open Go Go.RowKit Gw

set_option maxHeartbeats 400000 in
theorem kTxnInStep (R : HP) (q : ReqS) (cc : List CmpS) (tt ee : List ReqS) (hL : Lists R q cc tt ee) (hn : cc.length ≤ 8) (ht8 : tt.length ≤ 16) (he8 : ee.length ≤ 16) (hKt : ∀ x ∈ tt, 1 ≤ x.kind ∧ x.kind ≤ 4) (hKe : ∀ x ∈ ee, 1 ≤ x.kind ∧ x.kind ≤ 4) (hTt : ∀ x ∈ tt, x.kind = 4 → Tri Try.prog 43 #[.agg x.cells.toArray] R [] (fun v post => (∃ b : Nat, v = .pointer (some ⟨b, 0, none⟩)) ∧ post = [])) (hTe : ∀ x ∈ ee, x.kind = 4 → Tri Try.prog 43 #[.agg x.cells.toArray] R [] (fun v post => (∃ b : Nat, v = .pointer (some ⟨b, 0, none⟩)) ∧ post = [])) :
    Tri Try.prog 43 #[(Value.agg #[(Value.int .i64 q.kind), (Value.string q.key), (Value.string q.en), (Value.string q.val), (Value.int .i64 q.lease), (Value.int .i64 q.rev), (Value.int .i64 q.limit), (Value.int .i64 q.order), (Value.int .i64 q.target), (Value.int .i64 q.minMod), (Value.int .i64 q.maxMod), (Value.int .i64 q.minCreate), (Value.int .i64 q.maxCreate), (Value.bool q.keysOnly), (Value.bool q.countOnly), (Value.bool q.prev), (Value.bool q.ignValue), (Value.bool q.ignLease), (Value.slice q.cA q.cN q.cC), (Value.slice q.tA q.tN q.tC), (Value.slice q.eA q.eN q.eC)])] R [] (fun v post => ∃ (b : Nat) (C vt ve : Value) (R1 : HP) (pt pe : List Value), v = .pointer (some ⟨b, 0, none⟩) ∧ RC R1 b 0 [C, vt, ve] ∧ RS R1 1 vt tt.length pt ∧ RS R1 1 ve ee.length pe ∧ OpsAt R1 pt tt ∧ OpsAt R1 pe ee ∧ post = [ro R1]) := by
  refine Tri.into (n := 42) (al := [(Value.agg #[(Value.int .i64 q.kind), (Value.string q.key), (Value.string q.en), (Value.string q.val), (Value.int .i64 q.lease), (Value.int .i64 q.rev), (Value.int .i64 q.limit), (Value.int .i64 q.order), (Value.int .i64 q.target), (Value.int .i64 q.minMod), (Value.int .i64 q.maxMod), (Value.int .i64 q.minCreate), (Value.int .i64 q.maxCreate), (Value.bool q.keysOnly), (Value.bool q.countOnly), (Value.bool q.prev), (Value.bool q.ignValue), (Value.bool q.ignLease), (Value.slice q.cA q.cN q.cC), (Value.slice q.tA q.tN q.tC), (Value.slice q.eA q.eN q.eC)])]) Try.func43 rfl Try.ntmps43 rfl rfl fun w F H => ?_
  replace H : Holds w (ro R :: F) := H
  refine C_seq (fun K1_ hK1_ => ?_)
  refine C_reg ?_
  refine S_list (T_box (v := (Value.agg #[(Value.int .i64 q.kind), (Value.string q.key), (Value.string q.en), (Value.string q.val), (Value.int .i64 q.lease), (Value.int .i64 q.rev), (Value.int .i64 q.limit), (Value.int .i64 q.order), (Value.int .i64 q.target), (Value.int .i64 q.minMod), (Value.int .i64 q.maxMod), (Value.int .i64 q.minCreate), (Value.int .i64 q.maxCreate), (Value.bool q.keysOnly), (Value.bool q.countOnly), (Value.bool q.prev), (Value.bool q.ignValue), (Value.bool q.ignLease), (Value.slice q.cA q.cN q.cC), (Value.slice q.tA q.tN q.tC), (Value.slice q.eA q.eN q.eC)])) rfl H ?_)
  intro b2_ w3_ S5_ H4_
  replace H4_ : Holds w3_ (cl b2_ 40 [(Value.int .i64 q.kind), (Value.string q.key), (Value.string q.en), (Value.string q.val), (Value.int .i64 q.lease), (Value.int .i64 q.rev), (Value.int .i64 q.limit), (Value.int .i64 q.order), (Value.int .i64 q.target), (Value.int .i64 q.minMod), (Value.int .i64 q.maxMod), (Value.int .i64 q.minCreate), (Value.int .i64 q.maxCreate), (Value.bool q.keysOnly), (Value.bool q.countOnly), (Value.bool q.prev), (Value.bool q.ignValue), (Value.bool q.ignLease), (Value.slice q.cA q.cN q.cC), (Value.slice q.tA q.tN q.tC), (Value.slice q.eA q.eN q.eC)] :: ro R :: F) := H4_
  have S6_ := Same.trans (Same.refl w) S5_
  refine S_list (T_val (v := (Value.pointer none)) (x_assign rfl) ?_)
  refine wpList_nil ?_
  refine (X_then (hK1_ _ _ ?_))
  clear hK1_
  refine C_seq (fun K7_ hK7_ => ?_)
  refine C_reg ?_
  refine S_list (T_val (v := (Value.agg #[(Value.slice none 0 0), (Value.slice none 0 0), (Value.slice none 0 0)])) (by kernel_rfl) ?_)
  refine S_list (T_box (v := (Value.agg #[(Value.slice none 0 0), (Value.slice none 0 0), (Value.slice none 0 0)])) rfl H4_ ?_)
  intro b8_ w9_ S11_ H10_
  replace H10_ : Holds w9_ (cl b8_ 127 [(Value.slice none 0 0), (Value.slice none 0 0), (Value.slice none 0 0)] :: cl b2_ 40 [(Value.int .i64 q.kind), (Value.string q.key), (Value.string q.en), (Value.string q.val), (Value.int .i64 q.lease), (Value.int .i64 q.rev), (Value.int .i64 q.limit), (Value.int .i64 q.order), (Value.int .i64 q.target), (Value.int .i64 q.minMod), (Value.int .i64 q.maxMod), (Value.int .i64 q.minCreate), (Value.int .i64 q.maxCreate), (Value.bool q.keysOnly), (Value.bool q.countOnly), (Value.bool q.prev), (Value.bool q.ignValue), (Value.bool q.ignLease), (Value.slice q.cA q.cN q.cC), (Value.slice q.tA q.tN q.tC), (Value.slice q.eA q.eN q.eC)] :: ro R :: F) := H10_
  have S12_ := Same.trans S6_ S11_
  refine S_list (T_val (v := (Value.pointer (some ⟨b8_, 0, none⟩))) (x_assign rfl) ?_)
  refine wpList_nil ?_
  refine (X_then (hK7_ _ _ ?_))
  clear hK7_
  refine C_seq (fun K13_ hK13_ => ?_)
  refine C_seq (fun K14_ hK14_ => ?_)
  refine C_reg ?_
  refine S_list (T_val (v := (Value.int .i64 0)) (x_assign rfl) ?_)
  refine wpList_nil ?_
  refine (X_then (hK14_ _ _ ?_))
  clear hK14_
  refine C_block ?_
  have H15_ : Holds w9_ (sl 69 1 (.slice none 0 0) 0 [] :: cl b8_ 127 [(Value.slice none 0 0), (Value.slice none 0 0), (Value.slice none 0 0)] :: cl b2_ 40 [(Value.int .i64 q.kind), (Value.string q.key), (Value.string q.en), (Value.string q.val), (Value.int .i64 q.lease), (Value.int .i64 q.rev), (Value.int .i64 q.limit), (Value.int .i64 q.order), (Value.int .i64 q.target), (Value.int .i64 q.minMod), (Value.int .i64 q.maxMod), (Value.int .i64 q.minCreate), (Value.int .i64 q.maxCreate), (Value.bool q.keysOnly), (Value.bool q.countOnly), (Value.bool q.prev), (Value.bool q.ignValue), (Value.bool q.ignLease), (Value.slice q.cA q.cN q.cC), (Value.slice q.tA q.tN q.tC), (Value.slice q.eA q.eN q.eC)] :: ro R :: F) := Holds.add_nil H10_ 69 1
  have H16_ : Holds w9_ (ro R :: cl b2_ 40 [(Value.int .i64 q.kind), (Value.string q.key), (Value.string q.en), (Value.string q.val), (Value.int .i64 q.lease), (Value.int .i64 q.rev), (Value.int .i64 q.limit), (Value.int .i64 q.order), (Value.int .i64 q.target), (Value.int .i64 q.minMod), (Value.int .i64 q.maxMod), (Value.int .i64 q.minCreate), (Value.int .i64 q.maxCreate), (Value.bool q.keysOnly), (Value.bool q.countOnly), (Value.bool q.prev), (Value.bool q.ignValue), (Value.bool q.ignLease), (Value.slice q.cA q.cN q.cC), (Value.slice q.tA q.tN q.tC), (Value.slice q.eA q.eN q.eC)] :: cl b8_ 127 [(Value.slice none 0 0), (Value.slice none 0 0), (Value.slice none 0 0)] :: sl 69 1 (.slice none 0 0) 0 [] :: F) := (Holds.bring (Holds.bring (Holds.bring (Holds.bring H15_ 0 rfl) 1 rfl) 2 rfl) 3 rfl)
  refine C_loop (γ := Nat × Value × List Value) (fun x a w1 => match x with | ⟨k, vC, xs⟩ => ∃ h : Env, a = mkA 42 (upd (upd (upd h 1 (Value.pointer (some ⟨b2_, 0, none⟩))) 3 (Value.pointer (some ⟨b8_, 0, none⟩))) 4 (Value.int .i64 (k : Int))) [] ∧ Holds w1 (ro R :: cl b2_ 40 [(Value.int .i64 q.kind), (Value.string q.key), (Value.string q.en), (Value.string q.val), (Value.int .i64 q.lease), (Value.int .i64 q.rev), (Value.int .i64 q.limit), (Value.int .i64 q.order), (Value.int .i64 q.target), (Value.int .i64 q.minMod), (Value.int .i64 q.maxMod), (Value.int .i64 q.minCreate), (Value.int .i64 q.maxCreate), (Value.bool q.keysOnly), (Value.bool q.countOnly), (Value.bool q.prev), (Value.bool q.ignValue), (Value.bool q.ignLease), (Value.slice q.cA q.cN q.cC), (Value.slice q.tA q.tN q.tC), (Value.slice q.eA q.eN q.eC)] :: cl b8_ 127 [vC, (Value.slice none 0 0), (Value.slice none 0 0)] :: sl 69 1 vC k xs :: F) ∧ Same w w1 ∧ (k ≤ cc.length)) (fun x => match x with | ⟨k, vC, xs⟩ => cc.length - k) (⟨0, .slice none 0 0, []⟩) ⟨_, congrArg (fun e => mkA 42 e []) (ch (ch (ch rfl (by first | rfl | exact congrArg (Value.int _) (by omega))) (by first | rfl | exact congrArg (Value.int _) (by omega))) (by first | rfl | exact congrArg (Value.int _) (by omega))), H16_, S12_, by omega⟩ ?_
  rintro ⟨k, vC, xs⟩ _ w17_ ⟨h, rfl, H18_, S19_, hk⟩
  refine C_seq (fun K20_ hK20_ => ?_)
  refine C_seq (fun K21_ hK21_ => ?_)
  refine C_reg ?_
  refine S_list (T_val (v := (Value.int .i64 (k : Int))) (x_move rfl) ?_)
  refine S_list (T_val (v := (Value.pointer (some ⟨b2_, 18, none⟩))) (by kernel_rfl) ?_)
  refine S_list (T_val (v := (Value.slice q.cA q.cN q.cC)) (x_load1 rfl Try.underlying37 rfl ((Holds.rd H18_ 1 rfl) 18 (Value.slice q.cA q.cN q.cC) rfl)) ?_)
  refine S_list (T_val (v := (Value.int .i64 (cc.length : Int))) (x_lenRS rfl hL.c Try.underlying37) ?_)
  refine S_list (T_val (v := (Value.bool (decide ((k : Int) < (cc.length : Int))))) (x_bin rfl rfl rfl) ?_)
  refine wpList_nil ?_
  refine (X_then (hK21_ _ _ ?_))
  clear hK21_
  refine C_cond (b := decide ((k : Int) < (cc.length : Int))) rfl (fun c22_t => ?_) (fun c22_f => ?_)
  · have c22_tp : (k : Int) < (cc.length : Int) := of_decide_eq_true c22_t
    refine C_skip (X_then (hK20_ _ _ ?_))
    clear hK20_
    refine C_seq (fun K23_ hK23_ => ?_)
    refine C_block ?_
    refine A_start (S := fun w => Rd b2_ [(Value.int .i64 q.kind), (Value.string q.key), (Value.string q.en), (Value.string q.val), (Value.int .i64 q.lease), (Value.int .i64 q.rev), (Value.int .i64 q.limit), (Value.int .i64 q.order), (Value.int .i64 q.target), (Value.int .i64 q.minMod), (Value.int .i64 q.maxMod), (Value.int .i64 q.minCreate), (Value.int .i64 q.maxCreate), (Value.bool q.keysOnly), (Value.bool q.countOnly), (Value.bool q.prev), (Value.bool q.ignValue), (Value.bool q.ignLease), (Value.slice q.cA q.cN q.cC), (Value.slice q.tA q.tN q.tC), (Value.slice q.eA q.eN q.eC)] w ∧ Sub R (hp w)) (N := 16) foll rfl rfl ?_
    have H25_ : Holds w17_.drew (ro R :: cl b2_ 40 [(Value.int .i64 q.kind), (Value.string q.key), (Value.string q.en), (Value.string q.val), (Value.int .i64 q.lease), (Value.int .i64 q.rev), (Value.int .i64 q.limit), (Value.int .i64 q.order), (Value.int .i64 q.target), (Value.int .i64 q.minMod), (Value.int .i64 q.maxMod), (Value.int .i64 q.minCreate), (Value.int .i64 q.maxCreate), (Value.bool q.keysOnly), (Value.bool q.countOnly), (Value.bool q.prev), (Value.bool q.ignValue), (Value.bool q.ignLease), (Value.slice q.cA q.cN q.cC), (Value.slice q.tA q.tN q.tC), (Value.slice q.eA q.eN q.eC)] :: cl b8_ 127 [vC, (Value.slice none 0 0), (Value.slice none 0 0)] :: sl 69 1 vC k xs :: F) := H18_
    refine A_take 0 (ls' := #[true, false, false, false, false, false, false, false, false, false, false, false, false, false, false, false]) (v := (Value.pointer (some ⟨b8_, 0, none⟩))) rfl (by kernel_rfl) (by kernel_rfl) (by kernel_rfl) (by kernel_rfl) (fun _ _ _ h => h) (fun w hS => x_move rfl) ⟨Holds.rd H25_ 1 rfl, Holds.ro_at H25_ 0 rfl⟩ ?_
    refine A_take 1 (ls' := #[true, true, false, false, false, false, false, false, false, false, false, false, false, false, false, false]) (v := (Value.pointer (some ⟨b8_, 0, none⟩))) rfl (by kernel_rfl) (by kernel_rfl) (by kernel_rfl) (by kernel_rfl) (fun _ _ _ h => h) (fun w hS => x_move rfl) ⟨Holds.rd H25_ 1 rfl, Holds.ro_at H25_ 0 rfl⟩ ?_
    refine A_take 2 (ls' := #[true, true, true, false, false, false, false, false, false, false, false, false, false, false, false, false]) (v := (Value.pointer (some ⟨b8_, 0, none⟩))) rfl (by kernel_rfl) (by kernel_rfl) (by kernel_rfl) (by kernel_rfl) (fun _ _ _ h => h) (fun w hS => by kernel_rfl) ⟨Holds.rd H25_ 1 rfl, Holds.ro_at H25_ 0 rfl⟩ ?_
    refine A_take 3 (ls' := #[true, true, true, true, false, false, false, false, false, false, false, false, false, false, false, false]) (v := (Value.pointer (some ⟨b8_, 0, none⟩))) rfl (by kernel_rfl) (by kernel_rfl) (by kernel_rfl) (by kernel_rfl) (fun _ _ _ h => h) (fun w hS => by kernel_rfl) ⟨Holds.rd H25_ 1 rfl, Holds.ro_at H25_ 0 rfl⟩ ?_
    refine A_take 5 (ls' := #[true, true, true, true, false, true, false, false, false, false, false, false, false, false, false, false]) (v := (Value.pointer (some ⟨b2_, 18, none⟩))) rfl (by kernel_rfl) (by kernel_rfl) (by kernel_rfl) (by kernel_rfl) (fun _ _ _ h => h) (fun w hS => by kernel_rfl) ⟨Holds.rd H25_ 1 rfl, Holds.ro_at H25_ 0 rfl⟩ ?_
    refine A_take 6 (ls' := #[true, true, true, true, false, true, true, false, false, false, false, false, false, false, false, false]) (v := (Value.slice q.cA q.cN q.cC)) rfl (by kernel_rfl) (by kernel_rfl) (by kernel_rfl) (by kernel_rfl) (fun _ _ _ h => h) (fun w hS => x_load1 rfl Try.underlying37 rfl (hS.1 18 (Value.slice q.cA q.cN q.cC) rfl)) ⟨Holds.rd H25_ 1 rfl, Holds.ro_at H25_ 0 rfl⟩ ?_
    refine A_take 7 (ls' := #[true, true, true, true, false, true, true, true, false, false, false, false, false, false, false, false]) (v := (Value.int .i64 (k : Int))) rfl (by kernel_rfl) (by kernel_rfl) (by kernel_rfl) (by kernel_rfl) (fun _ _ _ h => h) (fun w hS => x_move rfl) ⟨Holds.rd H25_ 1 rfl, Holds.ro_at H25_ 0 rfl⟩ ?_
    obtain ⟨x26_, hx27_, hm28_⟩ := elem_at cc k (by omega)
    refine A_take 8 (ls' := #[true, true, true, true, false, true, true, true, true, false, false, false, false, false, false, false]) (v := (Value.pointer (some ⟨(sb (Value.slice q.cA q.cN q.cC)), so (Value.slice q.cA q.cN q.cC) + (k * 7 + 0), none⟩))) rfl (by kernel_rfl) (by kernel_rfl) (by kernel_rfl) (by kernel_rfl) (fun _ _ _ h => h) (fun w hS => x_idxRS (v := (Value.slice q.cA q.cN q.cC)) rfl hL.c rfl Try.underlying37 z31 (by omega) (by omega) (by omega : _ = k) rfl) ⟨Holds.rd H25_ 1 rfl, Holds.ro_at H25_ 0 rfl⟩ ?_
    refine A_take 9 (ls' := #[true, true, true, true, false, true, true, true, true, true, false, false, false, false, false, false]) (v := (Value.agg #[(Value.int .i64 x26_.T), (Value.int .i64 x26_.r), (Value.string x26_.key), (Value.string x26_.en), (Value.int .i64 x26_.n), (Value.string x26_.val), (Value.bool x26_.bare)])) rfl (by kernel_rfl) (by kernel_rfl) (by kernel_rfl) (by kernel_rfl) (fun _ _ _ h => h) (fun w hS => x_loadN (vs := [(Value.int .i64 x26_.T), (Value.int .i64 x26_.r), (Value.string x26_.key), (Value.string x26_.en), (Value.int .i64 x26_.n), (Value.string x26_.val), (Value.bool x26_.bare)]) rfl Try.underlying31 rfl z31 rfl (RC.cells (RS.rc hL.c) hS.2 (k * 7 + 0) (fm_cells CmpS.len hx27_ (i := 0) rfl))) ⟨Holds.rd H25_ 1 rfl, Holds.ro_at H25_ 0 rfl⟩ ?_
    refine A_ready (i := 4) (rs := [10]) (by kernel_rfl) ?_
    refine AllR.cons ?_ ?_
    · skip
      refine A_op (ls' := #[true, true, true, true, true, true, true, true, true, true, false, false, false, false, false, false]) rfl (by kernel_rfl) (T_val (v := vC) (x_load1 rfl Try.underlying124 rfl ((Holds.rd H25_ 2 rfl) 0 vC rfl)) ?_)
      refine ⟨⟨Holds.rd H25_ 1 rfl, Holds.ro_at H25_ 0 rfl⟩, ?_⟩
      refine A_ready (i := 10) (rs := []) (by kernel_rfl) ?_
      refine AllR.cons ?_ AllR.nil
      refine A_op (ls' := #[true, true, true, true, true, true, true, true, true, true, true, false, false, false, false, false]) rfl (by kernel_rfl) (T_call (al := [(Value.agg #[(Value.int .i64 x26_.T), (Value.int .i64 x26_.r), (Value.string x26_.key), (Value.string x26_.en), (Value.int .i64 x26_.n), (Value.string x26_.val), (Value.bool x26_.bare)])]) (pre := []) (F := cl b2_ 40 [(Value.int .i64 q.kind), (Value.string q.key), (Value.string q.en), (Value.string q.val), (Value.int .i64 q.lease), (Value.int .i64 q.rev), (Value.int .i64 q.limit), (Value.int .i64 q.order), (Value.int .i64 q.target), (Value.int .i64 q.minMod), (Value.int .i64 q.maxMod), (Value.int .i64 q.minCreate), (Value.int .i64 q.maxCreate), (Value.bool q.keysOnly), (Value.bool q.countOnly), (Value.bool q.prev), (Value.bool q.ignValue), (Value.bool q.ignLease), (Value.slice q.cA q.cN q.cC), (Value.slice q.tA q.tN q.tC), (Value.slice q.eA q.eN q.eC)] :: cl b8_ 127 [vC, (Value.slice none 0 0), (Value.slice none 0 0)] :: sl 69 1 vC k xs :: F) rfl rfl cb36 (kCmpIn R x26_) H25_ ?_)
      rintro v33_ p34_ w30_ ⟨⟨b29_, rfl⟩, rfl⟩ S32_ H31_
      replace H31_ : Holds w30_ (ro R :: cl b2_ 40 [(Value.int .i64 q.kind), (Value.string q.key), (Value.string q.en), (Value.string q.val), (Value.int .i64 q.lease), (Value.int .i64 q.rev), (Value.int .i64 q.limit), (Value.int .i64 q.order), (Value.int .i64 q.target), (Value.int .i64 q.minMod), (Value.int .i64 q.maxMod), (Value.int .i64 q.minCreate), (Value.int .i64 q.maxCreate), (Value.bool q.keysOnly), (Value.bool q.countOnly), (Value.bool q.prev), (Value.bool q.ignValue), (Value.bool q.ignLease), (Value.slice q.cA q.cN q.cC), (Value.slice q.tA q.tN q.tC), (Value.slice q.eA q.eN q.eC)] :: cl b8_ 127 [vC, (Value.slice none 0 0), (Value.slice none 0 0)] :: sl 69 1 vC k xs :: F) := H31_
      have S35_ := Same.trans (Same.trans S19_ (Same.drew _)) S32_
      refine ⟨⟨Holds.rd H31_ 1 rfl, Holds.ro_at H31_ 0 rfl⟩, ?_⟩
      refine A_ready (i := 11) (rs := []) (by kernel_rfl) ?_
      refine AllR.cons ?_ AllR.nil
      refine A_op (ls' := #[true, true, true, true, true, true, true, true, true, true, true, true, false, false, false, false]) rfl (by kernel_rfl) (T_new (obj := .cells #[(Value.pointer (some ⟨b29_, 0, none⟩))] 69) (f := fun b => .slice (some ⟨b, 0, none⟩) 1 1) (A := fun b => cl b 69 [(Value.pointer (some ⟨b29_, 0, none⟩))]) (by kernel_rfl) (fun l h => h.alloc _ _) H31_ ?_)
      intro b36_ w37_ S39_ H38_
      replace H38_ : Holds w37_ (cl b36_ 69 [(Value.pointer (some ⟨b29_, 0, none⟩))] :: ro R :: cl b2_ 40 [(Value.int .i64 q.kind), (Value.string q.key), (Value.string q.en), (Value.string q.val), (Value.int .i64 q.lease), (Value.int .i64 q.rev), (Value.int .i64 q.limit), (Value.int .i64 q.order), (Value.int .i64 q.target), (Value.int .i64 q.minMod), (Value.int .i64 q.maxMod), (Value.int .i64 q.minCreate), (Value.int .i64 q.maxCreate), (Value.bool q.keysOnly), (Value.bool q.countOnly), (Value.bool q.prev), (Value.bool q.ignValue), (Value.bool q.ignLease), (Value.slice q.cA q.cN q.cC), (Value.slice q.tA q.tN q.tC), (Value.slice q.eA q.eN q.eC)] :: cl b8_ 127 [vC, (Value.slice none 0 0), (Value.slice none 0 0)] :: sl 69 1 vC k xs :: F) := H38_
      have S40_ := Same.trans S35_ S39_
      refine ⟨⟨Holds.rd H38_ 2 rfl, Holds.ro_at H38_ 1 rfl⟩, ?_⟩
      refine A_ready (i := 12) (rs := []) (by kernel_rfl) ?_
      refine AllR.cons ?_ AllR.nil
      refine A_op (ls' := #[true, true, true, true, true, true, true, true, true, true, true, true, true, false, false, false]) rfl (by kernel_rfl) (T_append rfl rfl Try.underlying124 z69 rfl (by decide) H38_ 4 rfl (Holds.cl_src H38_ 0 rfl Try.underlying124 (by simp [Value.oneCell']) rfl) (by omega) ?_)
      intro v41_ w42_ S44_ H43_
      replace H43_ : Holds w42_ (cl b36_ 69 [(Value.pointer (some ⟨b29_, 0, none⟩))] :: ro R :: cl b2_ 40 [(Value.int .i64 q.kind), (Value.string q.key), (Value.string q.en), (Value.string q.val), (Value.int .i64 q.lease), (Value.int .i64 q.rev), (Value.int .i64 q.limit), (Value.int .i64 q.order), (Value.int .i64 q.target), (Value.int .i64 q.minMod), (Value.int .i64 q.maxMod), (Value.int .i64 q.minCreate), (Value.int .i64 q.maxCreate), (Value.bool q.keysOnly), (Value.bool q.countOnly), (Value.bool q.prev), (Value.bool q.ignValue), (Value.bool q.ignLease), (Value.slice q.cA q.cN q.cC), (Value.slice q.tA q.tN q.tC), (Value.slice q.eA q.eN q.eC)] :: cl b8_ 127 [vC, (Value.slice none 0 0), (Value.slice none 0 0)] :: sl 69 1 v41_ (k + 1) (xs ++ [(Value.pointer (some ⟨b29_, 0, none⟩))]) :: F) := H43_
      have S45_ := Same.trans S40_ S44_
      refine ⟨⟨Holds.rd H43_ 2 rfl, Holds.ro_at H43_ 1 rfl⟩, ?_⟩
      refine A_take 13 (ls' := #[true, true, true, true, true, true, true, true, true, true, true, true, true, true, false, false]) (v := (Value.pointer (some ⟨b8_, 0, none⟩))) rfl (by kernel_rfl) (by kernel_rfl) (by kernel_rfl) (by kernel_rfl) (fun _ _ _ h => h) (fun w hS => by kernel_rfl) ⟨Holds.rd H43_ 2 rfl, Holds.ro_at H43_ 1 rfl⟩ ?_
      refine A_take 14 (ls' := #[true, true, true, true, true, true, true, true, true, true, true, true, true, true, true, false]) (v := (Value.pointer (some ⟨b8_, 0, none⟩))) rfl (by kernel_rfl) (by kernel_rfl) (by kernel_rfl) (by kernel_rfl) (fun _ _ _ h => h) (fun w hS => by kernel_rfl) ⟨Holds.rd H43_ 2 rfl, Holds.ro_at H43_ 1 rfl⟩ ?_
      refine A_ready (i := 15) (rs := []) (by kernel_rfl) ?_
      refine AllR.cons ?_ AllR.nil
      refine A_op0 (ls' := #[true, true, true, true, true, true, true, true, true, true, true, true, true, true, true, true]) rfl (by kernel_rfl) (T_store1 (v := v41_) rfl rfl z124 (Holds.sl_one H43_ 4 rfl) H43_ 3 rfl (Nat.le_of_ble_eq_true (by rfl)) ?_)
      intro w46_ S48_ H47_
      replace H47_ : Holds w46_ (cl b36_ 69 [(Value.pointer (some ⟨b29_, 0, none⟩))] :: ro R :: cl b2_ 40 [(Value.int .i64 q.kind), (Value.string q.key), (Value.string q.en), (Value.string q.val), (Value.int .i64 q.lease), (Value.int .i64 q.rev), (Value.int .i64 q.limit), (Value.int .i64 q.order), (Value.int .i64 q.target), (Value.int .i64 q.minMod), (Value.int .i64 q.maxMod), (Value.int .i64 q.minCreate), (Value.int .i64 q.maxCreate), (Value.bool q.keysOnly), (Value.bool q.countOnly), (Value.bool q.prev), (Value.bool q.ignValue), (Value.bool q.ignLease), (Value.slice q.cA q.cN q.cC), (Value.slice q.tA q.tN q.tC), (Value.slice q.eA q.eN q.eC)] :: cl b8_ 127 [v41_, (Value.slice none 0 0), (Value.slice none 0 0)] :: sl 69 1 v41_ (k + 1) (xs ++ [(Value.pointer (some ⟨b29_, 0, none⟩))]) :: F) := H47_
      have S49_ := Same.trans S45_ S48_
      refine ⟨⟨Holds.rd H47_ 2 rfl, Holds.ro_at H47_ 1 rfl⟩, ?_⟩
      refine A_done (by kernel_rfl) ?_
      refine (X_blkN (X_then (hK23_ _ _ ?_)))
      clear hK23_
      refine C_reg ?_
      refine S_list (T_val (v := (Value.int .i64 (k : Int))) (x_move rfl) ?_)
      refine S_list (T_val (v := (Value.int .i64 ((k : Int) + 1))) (x_bin rfl rfl (ib_add (IntWalk.i64_in _ (by omega)))) ?_)
      refine S_list (T_val (v := (Value.int .i64 ((k : Int) + 1))) (x_assign rfl) ?_)
      refine wpList_nil ?_
      refine (X_then ?_)
      have H50_ : Holds w46_ (ro R :: cl b2_ 40 [(Value.int .i64 q.kind), (Value.string q.key), (Value.string q.en), (Value.string q.val), (Value.int .i64 q.lease), (Value.int .i64 q.rev), (Value.int .i64 q.limit), (Value.int .i64 q.order), (Value.int .i64 q.target), (Value.int .i64 q.minMod), (Value.int .i64 q.maxMod), (Value.int .i64 q.minCreate), (Value.int .i64 q.maxCreate), (Value.bool q.keysOnly), (Value.bool q.countOnly), (Value.bool q.prev), (Value.bool q.ignValue), (Value.bool q.ignLease), (Value.slice q.cA q.cN q.cC), (Value.slice q.tA q.tN q.tC), (Value.slice q.eA q.eN q.eC)] :: cl b8_ 127 [v41_, (Value.slice none 0 0), (Value.slice none 0 0)] :: sl 69 1 v41_ (k + 1) (xs ++ [(Value.pointer (some ⟨b29_, 0, none⟩))]) :: F) := (Holds.erase (Holds.bring (Holds.bring (Holds.bring (Holds.bring H47_ 4 rfl) 4 rfl) 4 rfl) 4 rfl) 4)
      exact ⟨⟨k + 1, v41_, xs ++ [(Value.pointer (some ⟨b29_, 0, none⟩))]⟩, ⟨_, congrArg (fun e => mkA 42 e []) (ch (ch (ch rfl (by first | rfl | exact congrArg (Value.int _) (by omega))) (by first | rfl | exact congrArg (Value.int _) (by omega))) (by first | rfl | exact congrArg (Value.int _) (by omega))), H50_, S49_, by omega⟩, by first | omega | (simp; omega)⟩
    refine AllR.cons ?_ AllR.nil
    refine A_op (ls' := #[true, true, true, true, false, true, true, true, true, true, true, false, false, false, false, false]) rfl (by kernel_rfl) (T_call (al := [(Value.agg #[(Value.int .i64 x26_.T), (Value.int .i64 x26_.r), (Value.string x26_.key), (Value.string x26_.en), (Value.int .i64 x26_.n), (Value.string x26_.val), (Value.bool x26_.bare)])]) (pre := []) (F := cl b2_ 40 [(Value.int .i64 q.kind), (Value.string q.key), (Value.string q.en), (Value.string q.val), (Value.int .i64 q.lease), (Value.int .i64 q.rev), (Value.int .i64 q.limit), (Value.int .i64 q.order), (Value.int .i64 q.target), (Value.int .i64 q.minMod), (Value.int .i64 q.maxMod), (Value.int .i64 q.minCreate), (Value.int .i64 q.maxCreate), (Value.bool q.keysOnly), (Value.bool q.countOnly), (Value.bool q.prev), (Value.bool q.ignValue), (Value.bool q.ignLease), (Value.slice q.cA q.cN q.cC), (Value.slice q.tA q.tN q.tC), (Value.slice q.eA q.eN q.eC)] :: cl b8_ 127 [vC, (Value.slice none 0 0), (Value.slice none 0 0)] :: sl 69 1 vC k xs :: F) rfl rfl cb36 (kCmpIn R x26_) H25_ ?_)
    rintro v55_ p56_ w52_ ⟨⟨b51_, rfl⟩, rfl⟩ S54_ H53_
    replace H53_ : Holds w52_ (ro R :: cl b2_ 40 [(Value.int .i64 q.kind), (Value.string q.key), (Value.string q.en), (Value.string q.val), (Value.int .i64 q.lease), (Value.int .i64 q.rev), (Value.int .i64 q.limit), (Value.int .i64 q.order), (Value.int .i64 q.target), (Value.int .i64 q.minMod), (Value.int .i64 q.maxMod), (Value.int .i64 q.minCreate), (Value.int .i64 q.maxCreate), (Value.bool q.keysOnly), (Value.bool q.countOnly), (Value.bool q.prev), (Value.bool q.ignValue), (Value.bool q.ignLease), (Value.slice q.cA q.cN q.cC), (Value.slice q.tA q.tN q.tC), (Value.slice q.eA q.eN q.eC)] :: cl b8_ 127 [vC, (Value.slice none 0 0), (Value.slice none 0 0)] :: sl 69 1 vC k xs :: F) := H53_
    have S57_ := Same.trans (Same.trans S19_ (Same.drew _)) S54_
    refine ⟨⟨Holds.rd H53_ 1 rfl, Holds.ro_at H53_ 0 rfl⟩, ?_⟩
    refine A_ready (i := 4) (rs := [11]) (by kernel_rfl) ?_
    refine AllR.cons ?_ ?_
    · skip
      refine A_op (ls' := #[true, true, true, true, true, true, true, true, true, true, true, false, false, false, false, false]) rfl (by kernel_rfl) (T_val (v := vC) (x_load1 rfl Try.underlying124 rfl ((Holds.rd H53_ 2 rfl) 0 vC rfl)) ?_)
      refine ⟨⟨Holds.rd H53_ 1 rfl, Holds.ro_at H53_ 0 rfl⟩, ?_⟩
      refine A_ready (i := 11) (rs := []) (by kernel_rfl) ?_
      refine AllR.cons ?_ AllR.nil
      refine A_op (ls' := #[true, true, true, true, true, true, true, true, true, true, true, true, false, false, false, false]) rfl (by kernel_rfl) (T_new (obj := .cells #[(Value.pointer (some ⟨b51_, 0, none⟩))] 69) (f := fun b => .slice (some ⟨b, 0, none⟩) 1 1) (A := fun b => cl b 69 [(Value.pointer (some ⟨b51_, 0, none⟩))]) (by kernel_rfl) (fun l h => h.alloc _ _) H53_ ?_)
      intro b58_ w59_ S61_ H60_
      replace H60_ : Holds w59_ (cl b58_ 69 [(Value.pointer (some ⟨b51_, 0, none⟩))] :: ro R :: cl b2_ 40 [(Value.int .i64 q.kind), (Value.string q.key), (Value.string q.en), (Value.string q.val), (Value.int .i64 q.lease), (Value.int .i64 q.rev), (Value.int .i64 q.limit), (Value.int .i64 q.order), (Value.int .i64 q.target), (Value.int .i64 q.minMod), (Value.int .i64 q.maxMod), (Value.int .i64 q.minCreate), (Value.int .i64 q.maxCreate), (Value.bool q.keysOnly), (Value.bool q.countOnly), (Value.bool q.prev), (Value.bool q.ignValue), (Value.bool q.ignLease), (Value.slice q.cA q.cN q.cC), (Value.slice q.tA q.tN q.tC), (Value.slice q.eA q.eN q.eC)] :: cl b8_ 127 [vC, (Value.slice none 0 0), (Value.slice none 0 0)] :: sl 69 1 vC k xs :: F) := H60_
      have S62_ := Same.trans S57_ S61_
      refine ⟨⟨Holds.rd H60_ 2 rfl, Holds.ro_at H60_ 1 rfl⟩, ?_⟩
      refine A_ready (i := 12) (rs := []) (by kernel_rfl) ?_
      refine AllR.cons ?_ AllR.nil
      refine A_op (ls' := #[true, true, true, true, true, true, true, true, true, true, true, true, true, false, false, false]) rfl (by kernel_rfl) (T_append rfl rfl Try.underlying124 z69 rfl (by decide) H60_ 4 rfl (Holds.cl_src H60_ 0 rfl Try.underlying124 (by simp [Value.oneCell']) rfl) (by omega) ?_)
      intro v63_ w64_ S66_ H65_
      replace H65_ : Holds w64_ (cl b58_ 69 [(Value.pointer (some ⟨b51_, 0, none⟩))] :: ro R :: cl b2_ 40 [(Value.int .i64 q.kind), (Value.string q.key), (Value.string q.en), (Value.string q.val), (Value.int .i64 q.lease), (Value.int .i64 q.rev), (Value.int .i64 q.limit), (Value.int .i64 q.order), (Value.int .i64 q.target), (Value.int .i64 q.minMod), (Value.int .i64 q.maxMod), (Value.int .i64 q.minCreate), (Value.int .i64 q.maxCreate), (Value.bool q.keysOnly), (Value.bool q.countOnly), (Value.bool q.prev), (Value.bool q.ignValue), (Value.bool q.ignLease), (Value.slice q.cA q.cN q.cC), (Value.slice q.tA q.tN q.tC), (Value.slice q.eA q.eN q.eC)] :: cl b8_ 127 [vC, (Value.slice none 0 0), (Value.slice none 0 0)] :: sl 69 1 v63_ (k + 1) (xs ++ [(Value.pointer (some ⟨b51_, 0, none⟩))]) :: F) := H65_
      have S67_ := Same.trans S62_ S66_
      refine ⟨⟨Holds.rd H65_ 2 rfl, Holds.ro_at H65_ 1 rfl⟩, ?_⟩
      refine A_take 13 (ls' := #[true, true, true, true, true, true, true, true, true, true, true, true, true, true, false, false]) (v := (Value.pointer (some ⟨b8_, 0, none⟩))) rfl (by kernel_rfl) (by kernel_rfl) (by kernel_rfl) (by kernel_rfl) (fun _ _ _ h => h) (fun w hS => by kernel_rfl) ⟨Holds.rd H65_ 2 rfl, Holds.ro_at H65_ 1 rfl⟩ ?_
      refine A_take 14 (ls' := #[true, true, true, true, true, true, true, true, true, true, true, true, true, true, true, false]) (v := (Value.pointer (some ⟨b8_, 0, none⟩))) rfl (by kernel_rfl) (by kernel_rfl) (by kernel_rfl) (by kernel_rfl) (fun _ _ _ h => h) (fun w hS => by kernel_rfl) ⟨Holds.rd H65_ 2 rfl, Holds.ro_at H65_ 1 rfl⟩ ?_
      refine A_ready (i := 15) (rs := []) (by kernel_rfl) ?_
      refine AllR.cons ?_ AllR.nil
      refine A_op0 (ls' := #[true, true, true, true, true, true, true, true, true, true, true, true, true, true, true, true]) rfl (by kernel_rfl) (T_store1 (v := v63_) rfl rfl z124 (Holds.sl_one H65_ 4 rfl) H65_ 3 rfl (Nat.le_of_ble_eq_true (by rfl)) ?_)
      intro w68_ S70_ H69_
      replace H69_ : Holds w68_ (cl b58_ 69 [(Value.pointer (some ⟨b51_, 0, none⟩))] :: ro R :: cl b2_ 40 [(Value.int .i64 q.kind), (Value.string q.key), (Value.string q.en), (Value.string q.val), (Value.int .i64 q.lease), (Value.int .i64 q.rev), (Value.int .i64 q.limit), (Value.int .i64 q.order), (Value.int .i64 q.target), (Value.int .i64 q.minMod), (Value.int .i64 q.maxMod), (Value.int .i64 q.minCreate), (Value.int .i64 q.maxCreate), (Value.bool q.keysOnly), (Value.bool q.countOnly), (Value.bool q.prev), (Value.bool q.ignValue), (Value.bool q.ignLease), (Value.slice q.cA q.cN q.cC), (Value.slice q.tA q.tN q.tC), (Value.slice q.eA q.eN q.eC)] :: cl b8_ 127 [v63_, (Value.slice none 0 0), (Value.slice none 0 0)] :: sl 69 1 v63_ (k + 1) (xs ++ [(Value.pointer (some ⟨b51_, 0, none⟩))]) :: F) := H69_
      have S71_ := Same.trans S67_ S70_
      refine ⟨⟨Holds.rd H69_ 2 rfl, Holds.ro_at H69_ 1 rfl⟩, ?_⟩
      refine A_done (by kernel_rfl) ?_
      refine (X_blkN (X_then (hK23_ _ _ ?_)))
      clear hK23_
      refine C_reg ?_
      refine S_list (T_val (v := (Value.int .i64 (k : Int))) (x_move rfl) ?_)
      refine S_list (T_val (v := (Value.int .i64 ((k : Int) + 1))) (x_bin rfl rfl (ib_add (IntWalk.i64_in _ (by omega)))) ?_)
      refine S_list (T_val (v := (Value.int .i64 ((k : Int) + 1))) (x_assign rfl) ?_)
      refine wpList_nil ?_
      refine (X_then ?_)
      have H72_ : Holds w68_ (ro R :: cl b2_ 40 [(Value.int .i64 q.kind), (Value.string q.key), (Value.string q.en), (Value.string q.val), (Value.int .i64 q.lease), (Value.int .i64 q.rev), (Value.int .i64 q.limit), (Value.int .i64 q.order), (Value.int .i64 q.target), (Value.int .i64 q.minMod), (Value.int .i64 q.maxMod), (Value.int .i64 q.minCreate), (Value.int .i64 q.maxCreate), (Value.bool q.keysOnly), (Value.bool q.countOnly), (Value.bool q.prev), (Value.bool q.ignValue), (Value.bool q.ignLease), (Value.slice q.cA q.cN q.cC), (Value.slice q.tA q.tN q.tC), (Value.slice q.eA q.eN q.eC)] :: cl b8_ 127 [v63_, (Value.slice none 0 0), (Value.slice none 0 0)] :: sl 69 1 v63_ (k + 1) (xs ++ [(Value.pointer (some ⟨b51_, 0, none⟩))]) :: F) := (Holds.erase (Holds.bring (Holds.bring (Holds.bring (Holds.bring H69_ 4 rfl) 4 rfl) 4 rfl) 4 rfl) 4)
      exact ⟨⟨k + 1, v63_, xs ++ [(Value.pointer (some ⟨b51_, 0, none⟩))]⟩, ⟨_, congrArg (fun e => mkA 42 e []) (ch (ch (ch rfl (by first | rfl | exact congrArg (Value.int _) (by omega))) (by first | rfl | exact congrArg (Value.int _) (by omega))) (by first | rfl | exact congrArg (Value.int _) (by omega))), H72_, S71_, by omega⟩, by first | omega | (simp; omega)⟩
    refine AllR.cons ?_ AllR.nil
    refine A_op (ls' := #[true, true, true, true, false, true, true, true, true, true, true, true, false, false, false, false]) rfl (by kernel_rfl) (T_new (obj := .cells #[(Value.pointer (some ⟨b51_, 0, none⟩))] 69) (f := fun b => .slice (some ⟨b, 0, none⟩) 1 1) (A := fun b => cl b 69 [(Value.pointer (some ⟨b51_, 0, none⟩))]) (by kernel_rfl) (fun l h => h.alloc _ _) H53_ ?_)
    intro b73_ w74_ S76_ H75_
    replace H75_ : Holds w74_ (cl b73_ 69 [(Value.pointer (some ⟨b51_, 0, none⟩))] :: ro R :: cl b2_ 40 [(Value.int .i64 q.kind), (Value.string q.key), (Value.string q.en), (Value.string q.val), (Value.int .i64 q.lease), (Value.int .i64 q.rev), (Value.int .i64 q.limit), (Value.int .i64 q.order), (Value.int .i64 q.target), (Value.int .i64 q.minMod), (Value.int .i64 q.maxMod), (Value.int .i64 q.minCreate), (Value.int .i64 q.maxCreate), (Value.bool q.keysOnly), (Value.bool q.countOnly), (Value.bool q.prev), (Value.bool q.ignValue), (Value.bool q.ignLease), (Value.slice q.cA q.cN q.cC), (Value.slice q.tA q.tN q.tC), (Value.slice q.eA q.eN q.eC)] :: cl b8_ 127 [vC, (Value.slice none 0 0), (Value.slice none 0 0)] :: sl 69 1 vC k xs :: F) := H75_
    have S77_ := Same.trans S57_ S76_
    refine ⟨⟨Holds.rd H75_ 2 rfl, Holds.ro_at H75_ 1 rfl⟩, ?_⟩
    refine A_ready (i := 4) (rs := []) (by kernel_rfl) ?_
    refine AllR.cons ?_ AllR.nil
    refine A_op (ls' := #[true, true, true, true, true, true, true, true, true, true, true, true, false, false, false, false]) rfl (by kernel_rfl) (T_val (v := vC) (x_load1 rfl Try.underlying124 rfl ((Holds.rd H75_ 3 rfl) 0 vC rfl)) ?_)
    refine ⟨⟨Holds.rd H75_ 2 rfl, Holds.ro_at H75_ 1 rfl⟩, ?_⟩
    refine A_ready (i := 12) (rs := []) (by kernel_rfl) ?_
    refine AllR.cons ?_ AllR.nil
    refine A_op (ls' := #[true, true, true, true, true, true, true, true, true, true, true, true, true, false, false, false]) rfl (by kernel_rfl) (T_append rfl rfl Try.underlying124 z69 rfl (by decide) H75_ 4 rfl (Holds.cl_src H75_ 0 rfl Try.underlying124 (by simp [Value.oneCell']) rfl) (by omega) ?_)
    intro v78_ w79_ S81_ H80_
    replace H80_ : Holds w79_ (cl b73_ 69 [(Value.pointer (some ⟨b51_, 0, none⟩))] :: ro R :: cl b2_ 40 [(Value.int .i64 q.kind), (Value.string q.key), (Value.string q.en), (Value.string q.val), (Value.int .i64 q.lease), (Value.int .i64 q.rev), (Value.int .i64 q.limit), (Value.int .i64 q.order), (Value.int .i64 q.target), (Value.int .i64 q.minMod), (Value.int .i64 q.maxMod), (Value.int .i64 q.minCreate), (Value.int .i64 q.maxCreate), (Value.bool q.keysOnly), (Value.bool q.countOnly), (Value.bool q.prev), (Value.bool q.ignValue), (Value.bool q.ignLease), (Value.slice q.cA q.cN q.cC), (Value.slice q.tA q.tN q.tC), (Value.slice q.eA q.eN q.eC)] :: cl b8_ 127 [vC, (Value.slice none 0 0), (Value.slice none 0 0)] :: sl 69 1 v78_ (k + 1) (xs ++ [(Value.pointer (some ⟨b51_, 0, none⟩))]) :: F) := H80_
    have S82_ := Same.trans S77_ S81_
    refine ⟨⟨Holds.rd H80_ 2 rfl, Holds.ro_at H80_ 1 rfl⟩, ?_⟩
    refine A_take 13 (ls' := #[true, true, true, true, true, true, true, true, true, true, true, true, true, true, false, false]) (v := (Value.pointer (some ⟨b8_, 0, none⟩))) rfl (by kernel_rfl) (by kernel_rfl) (by kernel_rfl) (by kernel_rfl) (fun _ _ _ h => h) (fun w hS => by kernel_rfl) ⟨Holds.rd H80_ 2 rfl, Holds.ro_at H80_ 1 rfl⟩ ?_
    refine A_take 14 (ls' := #[true, true, true, true, true, true, true, true, true, true, true, true, true, true, true, false]) (v := (Value.pointer (some ⟨b8_, 0, none⟩))) rfl (by kernel_rfl) (by kernel_rfl) (by kernel_rfl) (by kernel_rfl) (fun _ _ _ h => h) (fun w hS => by kernel_rfl) ⟨Holds.rd H80_ 2 rfl, Holds.ro_at H80_ 1 rfl⟩ ?_
    refine A_ready (i := 15) (rs := []) (by kernel_rfl) ?_
    refine AllR.cons ?_ AllR.nil
    refine A_op0 (ls' := #[true, true, true, true, true, true, true, true, true, true, true, true, true, true, true, true]) rfl (by kernel_rfl) (T_store1 (v := v78_) rfl rfl z124 (Holds.sl_one H80_ 4 rfl) H80_ 3 rfl (Nat.le_of_ble_eq_true (by rfl)) ?_)
    intro w83_ S85_ H84_
    replace H84_ : Holds w83_ (cl b73_ 69 [(Value.pointer (some ⟨b51_, 0, none⟩))] :: ro R :: cl b2_ 40 [(Value.int .i64 q.kind), (Value.string q.key), (Value.string q.en), (Value.string q.val), (Value.int .i64 q.lease), (Value.int .i64 q.rev), (Value.int .i64 q.limit), (Value.int .i64 q.order), (Value.int .i64 q.target), (Value.int .i64 q.minMod), (Value.int .i64 q.maxMod), (Value.int .i64 q.minCreate), (Value.int .i64 q.maxCreate), (Value.bool q.keysOnly), (Value.bool q.countOnly), (Value.bool q.prev), (Value.bool q.ignValue), (Value.bool q.ignLease), (Value.slice q.cA q.cN q.cC), (Value.slice q.tA q.tN q.tC), (Value.slice q.eA q.eN q.eC)] :: cl b8_ 127 [v78_, (Value.slice none 0 0), (Value.slice none 0 0)] :: sl 69 1 v78_ (k + 1) (xs ++ [(Value.pointer (some ⟨b51_, 0, none⟩))]) :: F) := H84_
    have S86_ := Same.trans S82_ S85_
    refine ⟨⟨Holds.rd H84_ 2 rfl, Holds.ro_at H84_ 1 rfl⟩, ?_⟩
    refine A_done (by kernel_rfl) ?_
    refine (X_blkN (X_then (hK23_ _ _ ?_)))
    clear hK23_
    refine C_reg ?_
    refine S_list (T_val (v := (Value.int .i64 (k : Int))) (x_move rfl) ?_)
    refine S_list (T_val (v := (Value.int .i64 ((k : Int) + 1))) (x_bin rfl rfl (ib_add (IntWalk.i64_in _ (by omega)))) ?_)
    refine S_list (T_val (v := (Value.int .i64 ((k : Int) + 1))) (x_assign rfl) ?_)
    refine wpList_nil ?_
    refine (X_then ?_)
    have H87_ : Holds w83_ (ro R :: cl b2_ 40 [(Value.int .i64 q.kind), (Value.string q.key), (Value.string q.en), (Value.string q.val), (Value.int .i64 q.lease), (Value.int .i64 q.rev), (Value.int .i64 q.limit), (Value.int .i64 q.order), (Value.int .i64 q.target), (Value.int .i64 q.minMod), (Value.int .i64 q.maxMod), (Value.int .i64 q.minCreate), (Value.int .i64 q.maxCreate), (Value.bool q.keysOnly), (Value.bool q.countOnly), (Value.bool q.prev), (Value.bool q.ignValue), (Value.bool q.ignLease), (Value.slice q.cA q.cN q.cC), (Value.slice q.tA q.tN q.tC), (Value.slice q.eA q.eN q.eC)] :: cl b8_ 127 [v78_, (Value.slice none 0 0), (Value.slice none 0 0)] :: sl 69 1 v78_ (k + 1) (xs ++ [(Value.pointer (some ⟨b51_, 0, none⟩))]) :: F) := (Holds.erase (Holds.bring (Holds.bring (Holds.bring (Holds.bring H84_ 4 rfl) 4 rfl) 4 rfl) 4 rfl) 4)
    exact ⟨⟨k + 1, v78_, xs ++ [(Value.pointer (some ⟨b51_, 0, none⟩))]⟩, ⟨_, congrArg (fun e => mkA 42 e []) (ch (ch (ch rfl (by first | rfl | exact congrArg (Value.int _) (by omega))) (by first | rfl | exact congrArg (Value.int _) (by omega))) (by first | rfl | exact congrArg (Value.int _) (by omega))), H87_, S86_, by omega⟩, by first | omega | (simp; omega)⟩
  · have c22_fp : ¬ ((k : Int) < (cc.length : Int)) := of_decide_eq_false c22_f
    refine C_exit (X_thenX (X_thenX (X_blkHit ?_)))
    refine (X_then (hK13_ _ _ ?_))
    clear hK13_
    refine C_seq (fun K88_ hK88_ => ?_)
    refine C_reg ?_
    refine S_list (T_val (v := (Value.pointer (some ⟨b8_, 0, none⟩))) (x_move rfl) ?_)
    refine S_list (T_val (v := (Value.pointer (some ⟨b2_, 19, none⟩))) (by kernel_rfl) ?_)
    refine S_list (T_val (v := (Value.slice q.tA q.tN q.tC)) (x_load1 rfl Try.underlying38 rfl ((Holds.rd H18_ 1 rfl) 19 (Value.slice q.tA q.tN q.tC) rfl)) ?_)
    refine S_list (T_call (al := [(Value.slice q.tA q.tN q.tC)]) (pre := []) (F := cl b2_ 40 [(Value.int .i64 q.kind), (Value.string q.key), (Value.string q.en), (Value.string q.val), (Value.int .i64 q.lease), (Value.int .i64 q.rev), (Value.int .i64 q.limit), (Value.int .i64 q.order), (Value.int .i64 q.target), (Value.int .i64 q.minMod), (Value.int .i64 q.maxMod), (Value.int .i64 q.minCreate), (Value.int .i64 q.maxCreate), (Value.bool q.keysOnly), (Value.bool q.countOnly), (Value.bool q.prev), (Value.bool q.ignValue), (Value.bool q.ignLease), (Value.slice q.cA q.cN q.cC), (Value.slice q.tA q.tN q.tC), (Value.slice q.eA q.eN q.eC)] :: cl b8_ 127 [vC, (Value.slice none 0 0), (Value.slice none 0 0)] :: sl 69 1 vC k xs :: F) rfl rfl cb64 (kOpsIn R (Value.slice q.tA q.tN q.tC) tt hL.t ht8 hKt hTt) H18_ ?_)
    rintro v92_ p93_ w89_ ⟨att, ctt, Rtt, ptt, rfl, hrtt, hott, rfl⟩ S91_ H90_
    replace H90_ : Holds w89_ (ro R :: ro Rtt :: cl b2_ 40 [(Value.int .i64 q.kind), (Value.string q.key), (Value.string q.en), (Value.string q.val), (Value.int .i64 q.lease), (Value.int .i64 q.rev), (Value.int .i64 q.limit), (Value.int .i64 q.order), (Value.int .i64 q.target), (Value.int .i64 q.minMod), (Value.int .i64 q.maxMod), (Value.int .i64 q.minCreate), (Value.int .i64 q.maxCreate), (Value.bool q.keysOnly), (Value.bool q.countOnly), (Value.bool q.prev), (Value.bool q.ignValue), (Value.bool q.ignLease), (Value.slice q.cA q.cN q.cC), (Value.slice q.tA q.tN q.tC), (Value.slice q.eA q.eN q.eC)] :: cl b8_ 127 [vC, (Value.slice none 0 0), (Value.slice none 0 0)] :: sl 69 1 vC k xs :: F) := H90_
    have S94_ := Same.trans S19_ S91_
    refine S_list (T_val (v := (Value.pointer (some ⟨b8_, 0, none⟩))) (by kernel_rfl) ?_)
    refine S_list (T_val (v := (Value.pointer (some ⟨b8_, 1, none⟩))) (by kernel_rfl) ?_)
    refine S_list0 (T_store1 (v := (Value.slice att tt.length ctt)) rfl rfl z125 rfl H90_ 3 rfl (Nat.le_of_ble_eq_true (by rfl)) ?_)
    intro w95_ S97_ H96_
    replace H96_ : Holds w95_ (ro R :: ro Rtt :: cl b2_ 40 [(Value.int .i64 q.kind), (Value.string q.key), (Value.string q.en), (Value.string q.val), (Value.int .i64 q.lease), (Value.int .i64 q.rev), (Value.int .i64 q.limit), (Value.int .i64 q.order), (Value.int .i64 q.target), (Value.int .i64 q.minMod), (Value.int .i64 q.maxMod), (Value.int .i64 q.minCreate), (Value.int .i64 q.maxCreate), (Value.bool q.keysOnly), (Value.bool q.countOnly), (Value.bool q.prev), (Value.bool q.ignValue), (Value.bool q.ignLease), (Value.slice q.cA q.cN q.cC), (Value.slice q.tA q.tN q.tC), (Value.slice q.eA q.eN q.eC)] :: cl b8_ 127 [vC, (Value.slice att tt.length ctt), (Value.slice none 0 0)] :: sl 69 1 vC k xs :: F) := H96_
    have S98_ := Same.trans S94_ S97_
    refine wpList_nil ?_
    refine (X_then (hK88_ _ _ ?_))
    clear hK88_
    refine C_seq (fun K99_ hK99_ => ?_)
    refine C_reg ?_
    refine S_list (T_val (v := (Value.pointer (some ⟨b8_, 0, none⟩))) (x_move rfl) ?_)
    refine S_list (T_val (v := (Value.pointer (some ⟨b2_, 20, none⟩))) (by kernel_rfl) ?_)
    refine S_list (T_val (v := (Value.slice q.eA q.eN q.eC)) (x_load1 rfl Try.underlying38 rfl ((Holds.rd H96_ 2 rfl) 20 (Value.slice q.eA q.eN q.eC) rfl)) ?_)
    refine S_list (T_call (al := [(Value.slice q.eA q.eN q.eC)]) (pre := []) (F := ro Rtt :: cl b2_ 40 [(Value.int .i64 q.kind), (Value.string q.key), (Value.string q.en), (Value.string q.val), (Value.int .i64 q.lease), (Value.int .i64 q.rev), (Value.int .i64 q.limit), (Value.int .i64 q.order), (Value.int .i64 q.target), (Value.int .i64 q.minMod), (Value.int .i64 q.maxMod), (Value.int .i64 q.minCreate), (Value.int .i64 q.maxCreate), (Value.bool q.keysOnly), (Value.bool q.countOnly), (Value.bool q.prev), (Value.bool q.ignValue), (Value.bool q.ignLease), (Value.slice q.cA q.cN q.cC), (Value.slice q.tA q.tN q.tC), (Value.slice q.eA q.eN q.eC)] :: cl b8_ 127 [vC, (Value.slice att tt.length ctt), (Value.slice none 0 0)] :: sl 69 1 vC k xs :: F) rfl rfl cb64 (kOpsIn R (Value.slice q.eA q.eN q.eC) ee hL.e he8 hKe hTe) H96_ ?_)
    rintro v103_ p104_ w100_ ⟨aee, cee, Ree, pee, rfl, hree, hoee, rfl⟩ S102_ H101_
    replace H101_ : Holds w100_ (ro R :: ro Ree :: ro Rtt :: cl b2_ 40 [(Value.int .i64 q.kind), (Value.string q.key), (Value.string q.en), (Value.string q.val), (Value.int .i64 q.lease), (Value.int .i64 q.rev), (Value.int .i64 q.limit), (Value.int .i64 q.order), (Value.int .i64 q.target), (Value.int .i64 q.minMod), (Value.int .i64 q.maxMod), (Value.int .i64 q.minCreate), (Value.int .i64 q.maxCreate), (Value.bool q.keysOnly), (Value.bool q.countOnly), (Value.bool q.prev), (Value.bool q.ignValue), (Value.bool q.ignLease), (Value.slice q.cA q.cN q.cC), (Value.slice q.tA q.tN q.tC), (Value.slice q.eA q.eN q.eC)] :: cl b8_ 127 [vC, (Value.slice att tt.length ctt), (Value.slice none 0 0)] :: sl 69 1 vC k xs :: F) := H101_
    have S105_ := Same.trans S98_ S102_
    refine S_list (T_val (v := (Value.pointer (some ⟨b8_, 0, none⟩))) (by kernel_rfl) ?_)
    refine S_list (T_val (v := (Value.pointer (some ⟨b8_, 2, none⟩))) (by kernel_rfl) ?_)
    refine S_list0 (T_store1 (v := (Value.slice aee ee.length cee)) rfl rfl z125 rfl H101_ 4 rfl (Nat.le_of_ble_eq_true (by rfl)) ?_)
    intro w106_ S108_ H107_
    replace H107_ : Holds w106_ (ro R :: ro Ree :: ro Rtt :: cl b2_ 40 [(Value.int .i64 q.kind), (Value.string q.key), (Value.string q.en), (Value.string q.val), (Value.int .i64 q.lease), (Value.int .i64 q.rev), (Value.int .i64 q.limit), (Value.int .i64 q.order), (Value.int .i64 q.target), (Value.int .i64 q.minMod), (Value.int .i64 q.maxMod), (Value.int .i64 q.minCreate), (Value.int .i64 q.maxCreate), (Value.bool q.keysOnly), (Value.bool q.countOnly), (Value.bool q.prev), (Value.bool q.ignValue), (Value.bool q.ignLease), (Value.slice q.cA q.cN q.cC), (Value.slice q.tA q.tN q.tC), (Value.slice q.eA q.eN q.eC)] :: cl b8_ 127 [vC, (Value.slice att tt.length ctt), (Value.slice aee ee.length cee)] :: sl 69 1 vC k xs :: F) := H107_
    have S109_ := Same.trans S105_ S108_
    refine wpList_nil ?_
    refine (X_then (hK99_ _ _ ?_))
    clear hK99_
    refine C_seq (fun K110_ hK110_ => ?_)
    refine C_reg ?_
    refine S_list (T_val (v := (Value.pointer (some ⟨b8_, 0, none⟩))) (x_move rfl) ?_)
    refine S_list (T_val (v := (Value.pointer (some ⟨b8_, 0, none⟩))) (x_assign rfl) ?_)
    refine wpList_nil ?_
    refine (X_then (hK110_ _ _ ?_))
    clear hK110_
    refine C_ret ?_
    refine R_any (v := (Value.pointer (some ⟨b8_, 0, none⟩))) (run_results1 rfl rfl) ?_
    have H111_ : Holds w106_ (cl b8_ 127 [vC, (Value.slice att tt.length ctt), (Value.slice aee ee.length cee)] :: ro Rtt :: ro Ree :: ro R :: cl b2_ 40 [(Value.int .i64 q.kind), (Value.string q.key), (Value.string q.en), (Value.string q.val), (Value.int .i64 q.lease), (Value.int .i64 q.rev), (Value.int .i64 q.limit), (Value.int .i64 q.order), (Value.int .i64 q.target), (Value.int .i64 q.minMod), (Value.int .i64 q.maxMod), (Value.int .i64 q.minCreate), (Value.int .i64 q.maxCreate), (Value.bool q.keysOnly), (Value.bool q.countOnly), (Value.bool q.prev), (Value.bool q.ignValue), (Value.bool q.ignLease), (Value.slice q.cA q.cN q.cC), (Value.slice q.tA q.tN q.tC), (Value.slice q.eA q.eN q.eC)] :: sl 69 1 vC k xs :: F) := (Holds.bring (Holds.bring (Holds.bring H107_ 1 rfl) 2 rfl) 4 rfl)
    have H112_ : Holds w106_ (ro Rtt :: ro Ree :: cl b8_ 127 [vC, (Value.slice att tt.length ctt), (Value.slice aee ee.length cee)] :: ro R :: cl b2_ 40 [(Value.int .i64 q.kind), (Value.string q.key), (Value.string q.en), (Value.string q.val), (Value.int .i64 q.lease), (Value.int .i64 q.rev), (Value.int .i64 q.limit), (Value.int .i64 q.order), (Value.int .i64 q.target), (Value.int .i64 q.minMod), (Value.int .i64 q.maxMod), (Value.int .i64 q.minCreate), (Value.int .i64 q.maxCreate), (Value.bool q.keysOnly), (Value.bool q.countOnly), (Value.bool q.prev), (Value.bool q.ignValue), (Value.bool q.ignLease), (Value.slice q.cA q.cN q.cC), (Value.slice q.tA q.tN q.tC), (Value.slice q.eA q.eN q.eC)] :: sl 69 1 vC k xs :: F) := (Holds.bring (Holds.bring (Holds.bring H111_ 0 rfl) 2 rfl) 2 rfl)
    obtain ⟨Rm1, sm1, sm2, Hm1⟩ := Holds.merge H112_
    obtain ⟨Rm2, sm3, gm, Hm2⟩ := Holds.gift Hm1
    have H113_ : Holds w106_ (ro R :: ro Rm2 :: F) := (Holds.erase (Holds.erase (Holds.bring (Holds.bring Hm2 0 rfl) 1 rfl) 2) 2)
    exact ⟨_, [ro Rm2], rfl, ⟨b8_, vC, (Value.slice att tt.length ctt), (Value.slice aee ee.length cee), _, ptt, pee, rfl, rcOf gm, (hrtt.mono sm1).mono sm3, (hree.mono sm2).mono sm3, (hott.mono sm1).mono sm3, (hoee.mono sm2).mono sm3, rfl⟩, S109_, H113_⟩

theorem kTxnInAll (R : HP) (q : ReqS) (hG : ReqG R q) : q.kind = 4 → Tri Try.prog 43 #[.agg q.cells.toArray] R [] (fun v post => (∃ b : Nat, v = .pointer (some ⟨b, 0, none⟩)) ∧ post = []) := by
  induction hG with
  | mk q cc tt ee h1 h2 hL hb ht he iht ihe =>
    intro h4
    obtain ⟨b1, b2, b3⟩ := hb h4
    refine (kTxnInStep R q cc tt ee hL b1 b2 b3 (fun x hx => (ht h4 x hx).kind) (fun x hx => (he h4 x hx).kind) (fun x hx hk => iht h4 x hx hk) (fun x hx hk => ihe h4 x hx hk)).forget.mono ?_
    rintro v post ⟨⟨post', b, C, vt, ve, R1, pt, pe, e, -⟩, rfl⟩
    exact ⟨⟨b, e⟩, rfl⟩
theorem kTxnIn (R : HP) (q : ReqS) (cc : List CmpS) (tt ee : List ReqS) (hL : Lists R q cc tt ee) (hb : cc.length ≤ 8 ∧ tt.length ≤ 16 ∧ ee.length ≤ 16) (ht : ∀ x ∈ tt, ReqG R x) (he : ∀ x ∈ ee, ReqG R x) : Tri Try.prog 43 #[.agg q.cells.toArray] R [] (fun v post => ∃ (b : Nat) (C vt ve : Value) (R1 : HP) (pt pe : List Value), v = .pointer (some ⟨b, 0, none⟩) ∧ RC R1 b 0 [C, vt, ve] ∧ RS R1 1 vt tt.length pt ∧ RS R1 1 ve ee.length pe ∧ OpsAt R1 pt tt ∧ OpsAt R1 pe ee ∧ post = [ro R1]) :=
  kTxnInStep R q cc tt ee hL hb.1 hb.2.1 hb.2.2 (fun x hx => (ht x hx).kind) (fun x hx => (he x hx).kind) (fun x hx hk => kTxnInAll R x (ht x hx) hk) (fun x hx hk => kTxnInAll R x (he x hx) hk)

set_option maxHeartbeats 400000 in
theorem kGet150 (R : HP) (b b2 b3 : Nat) (h1 : RC R b 0 [.iface 150 (.pointer (some ⟨b2, 0, none⟩))]) (h2 : RC R b2 0 [.pointer (some ⟨b3, 0, none⟩)]) :
    Tri Try.prog 63 #[(Value.pointer (some ⟨b, 0, none⟩))] R [] (fun v post => v = .pointer (some ⟨b3, 0, none⟩) ∧ post = []) := by
  refine Tri.into (n := 18) (al := [(Value.pointer (some ⟨b, 0, none⟩))]) Try.func63 rfl Try.ntmps63 rfl rfl fun w F H => ?_
  replace H : Holds w (ro R :: F) := H
  refine C_seq (fun K1_ hK1_ => ?_)
  refine C_reg ?_
  refine S_list (T_val (v := (Value.pointer none)) (x_assign rfl) ?_)
  refine wpList_nil ?_
  refine (X_then (hK1_ _ _ ?_))
  clear hK1_
  refine C_seq (fun K2_ hK2_ => ?_)
  refine C_seq (fun K3_ hK3_ => ?_)
  refine C_reg ?_
  refine S_list (T_val (v := (Value.pointer (some ⟨b, 0, none⟩))) (x_move rfl) ?_)
  refine S_list (T_val (v := (Value.pointer (some ⟨b, 0, none⟩))) (by kernel_rfl) ?_)
  refine S_list (T_val (v := (Value.pointer (some ⟨b, 0, none⟩))) (by kernel_rfl) ?_)
  refine S_list (T_val (v := (Value.iface 150 (Value.pointer (some ⟨b2, 0, none⟩)))) (x_load1 rfl Try.underlying20 rfl (RC.cell h1 (Holds.ro_at H 0 rfl) (j := 0) (u := (Value.iface 150 (Value.pointer (some ⟨b2, 0, none⟩)))) (rfl))) ?_)
  refine S_list (T_val (v := (Value.tuple #[(Value.pointer (some ⟨b2, 0, none⟩)), (Value.bool true)])) (by kernel_rfl) ?_)
  refine S_list (T_val (v := (Value.tuple #[(Value.pointer (some ⟨b2, 0, none⟩)), (Value.bool true)])) (x_move rfl) ?_)
  refine S_list (T_val (v := (Value.pointer (some ⟨b2, 0, none⟩))) (by kernel_rfl) ?_)
  refine S_list (T_val (v := (Value.bool true)) (by kernel_rfl) ?_)
  refine S_list (T_val (v := (Value.pointer (some ⟨b2, 0, none⟩))) (x_assign rfl) ?_)
  refine S_list (T_val (v := (Value.bool true)) (x_assign rfl) ?_)
  refine wpList_nil ?_
  refine (X_then (hK3_ _ _ ?_))
  clear hK3_
  refine C_seq (fun K4_ hK4_ => ?_)
  refine C_reg ?_
  refine S_list (T_val (v := (Value.bool true)) (x_move rfl) ?_)
  refine wpList_nil ?_
  refine (X_then (hK4_ _ _ ?_))
  clear hK4_
  refine C_condT rfl ?_
  refine C_seq (fun K5_ hK5_ => ?_)
  refine C_reg ?_
  refine S_list (T_val (v := (Value.pointer (some ⟨b2, 0, none⟩))) (x_move rfl) ?_)
  refine S_list (T_val (v := (Value.pointer (some ⟨b2, 0, none⟩))) (by kernel_rfl) ?_)
  refine S_list (T_val (v := (Value.pointer (some ⟨b2, 0, none⟩))) (by kernel_rfl) ?_)
  refine S_list (T_val (v := (Value.pointer (some ⟨b3, 0, none⟩))) (x_load1 rfl Try.underlying129 rfl (RC.cell h2 (Holds.ro_at H 0 rfl) (j := 0) (u := (Value.pointer (some ⟨b3, 0, none⟩))) (rfl))) ?_)
  refine S_list (T_val (v := (Value.pointer (some ⟨b3, 0, none⟩))) (x_assign rfl) ?_)
  refine wpList_nil ?_
  refine (X_then (hK5_ _ _ ?_))
  clear hK5_
  refine C_ret (X_thenR ?_)
  refine R_any (v := (Value.pointer (some ⟨b3, 0, none⟩))) (run_results1 rfl rfl) ?_
  exact ⟨_, [], rfl, ⟨rfl, rfl⟩, (Same.refl w), H⟩

set_option maxHeartbeats 400000 in
theorem kGet157 (R : HP) (b b2 : Nat) (h1 : RC R b 0 [.iface 157 (.pointer (some ⟨b2, 0, none⟩))]) :
    Tri Try.prog 63 #[(Value.pointer (some ⟨b, 0, none⟩))] R [] (fun v post => v = .pointer none ∧ post = []) := by
  refine Tri.into (n := 18) (al := [(Value.pointer (some ⟨b, 0, none⟩))]) Try.func63 rfl Try.ntmps63 rfl rfl fun w F H => ?_
  replace H : Holds w (ro R :: F) := H
  refine C_seq (fun K1_ hK1_ => ?_)
  refine C_reg ?_
  refine S_list (T_val (v := (Value.pointer none)) (x_assign rfl) ?_)
  refine wpList_nil ?_
  refine (X_then (hK1_ _ _ ?_))
  clear hK1_
  refine C_seq (fun K2_ hK2_ => ?_)
  refine C_seq (fun K3_ hK3_ => ?_)
  refine C_reg ?_
  refine S_list (T_val (v := (Value.pointer (some ⟨b, 0, none⟩))) (x_move rfl) ?_)
  refine S_list (T_val (v := (Value.pointer (some ⟨b, 0, none⟩))) (by kernel_rfl) ?_)
  refine S_list (T_val (v := (Value.pointer (some ⟨b, 0, none⟩))) (by kernel_rfl) ?_)
  refine S_list (T_val (v := (Value.iface 157 (Value.pointer (some ⟨b2, 0, none⟩)))) (x_load1 rfl Try.underlying20 rfl (RC.cell h1 (Holds.ro_at H 0 rfl) (j := 0) (u := (Value.iface 157 (Value.pointer (some ⟨b2, 0, none⟩)))) (rfl))) ?_)
  refine S_list (T_val (v := (Value.tuple #[(Value.pointer none), (Value.bool false)])) (by kernel_rfl) ?_)
  refine S_list (T_val (v := (Value.tuple #[(Value.pointer none), (Value.bool false)])) (x_move rfl) ?_)
  refine S_list (T_val (v := (Value.pointer none)) (by kernel_rfl) ?_)
  refine S_list (T_val (v := (Value.bool false)) (by kernel_rfl) ?_)
  refine S_list (T_val (v := (Value.pointer none)) (x_assign rfl) ?_)
  refine S_list (T_val (v := (Value.bool false)) (x_assign rfl) ?_)
  refine wpList_nil ?_
  refine (X_then (hK3_ _ _ ?_))
  clear hK3_
  refine C_seq (fun K4_ hK4_ => ?_)
  refine C_reg ?_
  refine S_list (T_val (v := (Value.bool false)) (x_move rfl) ?_)
  refine wpList_nil ?_
  refine (X_then (hK4_ _ _ ?_))
  clear hK4_
  refine C_condF rfl ?_
  refine C_skip (X_then (hK2_ _ _ ?_))
  clear hK2_
  refine C_seq (fun K5_ hK5_ => ?_)
  refine C_reg ?_
  refine S_list (T_val (v := (Value.pointer none)) (x_assign rfl) ?_)
  refine wpList_nil ?_
  refine (X_then (hK5_ _ _ ?_))
  clear hK5_
  refine C_ret ?_
  refine R_any (v := (Value.pointer none)) (run_results1 rfl rfl) ?_
  exact ⟨_, [], rfl, ⟨rfl, rfl⟩, (Same.refl w), H⟩

set_option maxHeartbeats 400000 in
theorem kGet162 (R : HP) (b b2 : Nat) (h1 : RC R b 0 [.iface 162 (.pointer (some ⟨b2, 0, none⟩))]) :
    Tri Try.prog 63 #[(Value.pointer (some ⟨b, 0, none⟩))] R [] (fun v post => v = .pointer none ∧ post = []) := by
  refine Tri.into (n := 18) (al := [(Value.pointer (some ⟨b, 0, none⟩))]) Try.func63 rfl Try.ntmps63 rfl rfl fun w F H => ?_
  replace H : Holds w (ro R :: F) := H
  refine C_seq (fun K1_ hK1_ => ?_)
  refine C_reg ?_
  refine S_list (T_val (v := (Value.pointer none)) (x_assign rfl) ?_)
  refine wpList_nil ?_
  refine (X_then (hK1_ _ _ ?_))
  clear hK1_
  refine C_seq (fun K2_ hK2_ => ?_)
  refine C_seq (fun K3_ hK3_ => ?_)
  refine C_reg ?_
  refine S_list (T_val (v := (Value.pointer (some ⟨b, 0, none⟩))) (x_move rfl) ?_)
  refine S_list (T_val (v := (Value.pointer (some ⟨b, 0, none⟩))) (by kernel_rfl) ?_)
  refine S_list (T_val (v := (Value.pointer (some ⟨b, 0, none⟩))) (by kernel_rfl) ?_)
  refine S_list (T_val (v := (Value.iface 162 (Value.pointer (some ⟨b2, 0, none⟩)))) (x_load1 rfl Try.underlying20 rfl (RC.cell h1 (Holds.ro_at H 0 rfl) (j := 0) (u := (Value.iface 162 (Value.pointer (some ⟨b2, 0, none⟩)))) (rfl))) ?_)
  refine S_list (T_val (v := (Value.tuple #[(Value.pointer none), (Value.bool false)])) (by kernel_rfl) ?_)
  refine S_list (T_val (v := (Value.tuple #[(Value.pointer none), (Value.bool false)])) (x_move rfl) ?_)
  refine S_list (T_val (v := (Value.pointer none)) (by kernel_rfl) ?_)
  refine S_list (T_val (v := (Value.bool false)) (by kernel_rfl) ?_)
  refine S_list (T_val (v := (Value.pointer none)) (x_assign rfl) ?_)
  refine S_list (T_val (v := (Value.bool false)) (x_assign rfl) ?_)
  refine wpList_nil ?_
  refine (X_then (hK3_ _ _ ?_))
  clear hK3_
  refine C_seq (fun K4_ hK4_ => ?_)
  refine C_reg ?_
  refine S_list (T_val (v := (Value.bool false)) (x_move rfl) ?_)
  refine wpList_nil ?_
  refine (X_then (hK4_ _ _ ?_))
  clear hK4_
  refine C_condF rfl ?_
  refine C_skip (X_then (hK2_ _ _ ?_))
  clear hK2_
  refine C_seq (fun K5_ hK5_ => ?_)
  refine C_reg ?_
  refine S_list (T_val (v := (Value.pointer none)) (x_assign rfl) ?_)
  refine wpList_nil ?_
  refine (X_then (hK5_ _ _ ?_))
  clear hK5_
  refine C_ret ?_
  refine R_any (v := (Value.pointer none)) (run_results1 rfl rfl) ?_
  exact ⟨_, [], rfl, ⟨rfl, rfl⟩, (Same.refl w), H⟩

set_option maxHeartbeats 400000 in
theorem kGet167 (R : HP) (b b2 : Nat) (h1 : RC R b 0 [.iface 167 (.pointer (some ⟨b2, 0, none⟩))]) :
    Tri Try.prog 63 #[(Value.pointer (some ⟨b, 0, none⟩))] R [] (fun v post => v = .pointer none ∧ post = []) := by
  refine Tri.into (n := 18) (al := [(Value.pointer (some ⟨b, 0, none⟩))]) Try.func63 rfl Try.ntmps63 rfl rfl fun w F H => ?_
  replace H : Holds w (ro R :: F) := H
  refine C_seq (fun K1_ hK1_ => ?_)
  refine C_reg ?_
  refine S_list (T_val (v := (Value.pointer none)) (x_assign rfl) ?_)
  refine wpList_nil ?_
  refine (X_then (hK1_ _ _ ?_))
  clear hK1_
  refine C_seq (fun K2_ hK2_ => ?_)
  refine C_seq (fun K3_ hK3_ => ?_)
  refine C_reg ?_
  refine S_list (T_val (v := (Value.pointer (some ⟨b, 0, none⟩))) (x_move rfl) ?_)
  refine S_list (T_val (v := (Value.pointer (some ⟨b, 0, none⟩))) (by kernel_rfl) ?_)
  refine S_list (T_val (v := (Value.pointer (some ⟨b, 0, none⟩))) (by kernel_rfl) ?_)
  refine S_list (T_val (v := (Value.iface 167 (Value.pointer (some ⟨b2, 0, none⟩)))) (x_load1 rfl Try.underlying20 rfl (RC.cell h1 (Holds.ro_at H 0 rfl) (j := 0) (u := (Value.iface 167 (Value.pointer (some ⟨b2, 0, none⟩)))) (rfl))) ?_)
  refine S_list (T_val (v := (Value.tuple #[(Value.pointer none), (Value.bool false)])) (by kernel_rfl) ?_)
  refine S_list (T_val (v := (Value.tuple #[(Value.pointer none), (Value.bool false)])) (x_move rfl) ?_)
  refine S_list (T_val (v := (Value.pointer none)) (by kernel_rfl) ?_)
  refine S_list (T_val (v := (Value.bool false)) (by kernel_rfl) ?_)
  refine S_list (T_val (v := (Value.pointer none)) (x_assign rfl) ?_)
  refine S_list (T_val (v := (Value.bool false)) (x_assign rfl) ?_)
  refine wpList_nil ?_
  refine (X_then (hK3_ _ _ ?_))
  clear hK3_
  refine C_seq (fun K4_ hK4_ => ?_)
  refine C_reg ?_
  refine S_list (T_val (v := (Value.bool false)) (x_move rfl) ?_)
  refine wpList_nil ?_
  refine (X_then (hK4_ _ _ ?_))
  clear hK4_
  refine C_condF rfl ?_
  refine C_skip (X_then (hK2_ _ _ ?_))
  clear hK2_
  refine C_seq (fun K5_ hK5_ => ?_)
  refine C_reg ?_
  refine S_list (T_val (v := (Value.pointer none)) (x_assign rfl) ?_)
  refine wpList_nil ?_
  refine (X_then (hK5_ _ _ ?_))
  clear hK5_
  refine C_ret ?_
  refine R_any (v := (Value.pointer none)) (run_results1 rfl rfl) ?_
  exact ⟨_, [], rfl, ⟨rfl, rfl⟩, (Same.refl w), H⟩

theorem kGet (R : HP) (p : Value) (x : ReqS) (h : OpAt R p x) : Tri Try.prog 63 #[p] R [] (fun v post => (x.kind = 1 ∧ (∃ b3 cs, v = .pointer (some ⟨b3, 0, none⟩) ∧ RC R b3 0 cs ∧ cs[6]? = some (.bool x.prev)) ∧ post = []) ∨ (x.kind ≠ 1 ∧ v = .pointer none ∧ post = [])) := by
  obtain ⟨b, b2, rfl, ⟨h1, b3, cs, a1, a2, a3, a4⟩ | ⟨h1, a⟩ | ⟨h1, a⟩ | ⟨h1, a⟩⟩ := h
  · exact (kGet150 R b b2 b3 a1 a2).mono fun v post e => .inl ⟨h1, ⟨b3, cs, e.1, a3, a4⟩, e.2⟩
  · exact (kGet157 R b b2 a).mono fun v post e => .inr ⟨h1, e⟩
  · exact (kGet162 R b b2 a).mono fun v post e => .inr ⟨h1, e⟩
  · exact (kGet167 R b b2 a).mono fun v post e => .inr ⟨h1, e⟩

set_option maxHeartbeats 400000 in
theorem kIsRead (R : HP) (b : Nat) (C vt ve : Value) (pt pe : List Value) (tt ee : List ReqS) (hb : RC R b 0 [C, vt, ve]) (ht : RS R 1 vt tt.length pt) (he : RS R 1 ve ee.length pe) (hot : OpsAt R pt tt) (hoe : OpsAt R pe ee) (htl : tt.length ≤ 16) (hel : ee.length ≤ 16) :
    Tri Try.prog 42 #[(Value.pointer (some ⟨b, 0, none⟩))] R [] (fun v post => v = .bool (rdo tt && rdo ee) ∧ post = []) := by
  refine Tri.into (n := 37) (al := [(Value.pointer (some ⟨b, 0, none⟩))]) Try.func42 rfl Try.ntmps42 rfl rfl fun w F H => ?_
  replace H : Holds w (ro R :: F) := H
  refine C_seq (fun K1_ hK1_ => ?_)
  refine C_reg ?_
  refine S_list (T_val (v := (Value.bool false)) (x_assign rfl) ?_)
  refine wpList_nil ?_
  refine (X_then (hK1_ _ _ ?_))
  clear hK1_
  refine C_seq (fun K2_ hK2_ => ?_)
  refine C_seq (fun K3_ hK3_ => ?_)
  refine C_reg ?_
  refine S_list (T_val (v := (Value.pointer (some ⟨b, 0, none⟩))) (x_move rfl) ?_)
  refine S_list (T_val (v := (Value.pointer (some ⟨b, 0, none⟩))) (by kernel_rfl) ?_)
  refine S_list (T_val (v := (Value.pointer (some ⟨b, 1, none⟩))) (by kernel_rfl) ?_)
  refine S_list (T_val (v := vt) (x_load1 rfl Try.underlying125 rfl (RC.cell hb (Holds.ro_at H 0 rfl) (j := 1) (u := vt) (rfl))) ?_)
  refine S_list (T_val (v := (Value.int .i64 (tt.length : Int))) (x_lenRS rfl ht Try.underlying125) ?_)
  refine S_list (T_val (v := (Value.int .i64 0)) (x_move rfl) ?_)
  refine wpList_nil ?_
  refine (X_then (hK3_ _ _ ?_))
  clear hK3_
  refine C_block ?_
  refine C_loop (γ := Nat) (fun k a w1 => ∃ h : Env, a = mkA 37 (upd (upd (upd (upd h 14 (Value.int .i64 (k : Int))) 0 (Value.pointer (some ⟨b, 0, none⟩))) 12 vt) 13 (Value.int .i64 (tt.length : Int))) [] ∧ Holds w1 (ro R :: F) ∧ Same w w1 ∧ (k ≤ tt.length) ∧ (∀ (i : Nat) (y : ReqS), i < k → tt[i]? = some y → y.kind = 1)) (fun k => tt.length - k) (0) ⟨_, congrArg (fun e => mkA 37 e []) (ch (ch (ch (ch rfl (by first | rfl | exact congrArg (Value.int _) (by omega))) (by first | rfl | exact congrArg (Value.int _) (by omega))) (by first | rfl | exact congrArg (Value.int _) (by omega))) (by first | rfl | exact congrArg (Value.int _) (by omega))), H, (Same.refl w), by omega, fun i y hi => by omega⟩ ?_
  rintro k _ w4_ ⟨h, rfl, H5_, S6_, hk, hal⟩
  refine C_seq (fun K7_ hK7_ => ?_)
  refine C_reg ?_
  refine S_list (T_val (v := (Value.bool (decide ((k : Int) < (tt.length : Int))))) (x_bin rfl rfl rfl) ?_)
  refine wpList_nil ?_
  refine (X_then (hK7_ _ _ ?_))
  clear hK7_
  refine C_seq (fun K8_ hK8_ => ?_)
  refine C_cond (b := decide ((k : Int) < (tt.length : Int))) rfl (fun c9_t => ?_) (fun c9_f => ?_)
  · have c9_tp : (k : Int) < (tt.length : Int) := of_decide_eq_true c9_t
    refine C_skip (X_then (hK8_ _ _ ?_))
    clear hK8_
    refine C_seq (fun K10_ hK10_ => ?_)
    refine C_block ?_
    refine C_seq (fun K11_ hK11_ => ?_)
    refine C_reg ?_
    obtain ⟨p12_, hp13_, -⟩ := elem_at pt k (by have := hot.1; omega)
    obtain ⟨x14_, hx15_, -⟩ := elem_at tt k (by omega)
    have hop16_ := hot.2 k p12_ x14_ hp13_ hx15_
    refine S_list (T_val (v := (Value.pointer (some ⟨(sb vt), so vt + k, none⟩))) (x_idxRS (v := vt) rfl ht rfl Try.underlying125 z128 (by omega) (by omega) (by omega : _ = k) (by rw [Nat.mul_one])) ?_)
    refine S_list (T_val (v := p12_) (x_load1 rfl Try.underlying128 rfl (RC.cell (RS.rc ht) (Holds.ro_at H5_ 0 rfl) (j := k) (u := p12_) (hp13_))) ?_)
    refine S_list (T_val (v := p12_) (x_assign rfl) ?_)
    refine wpList_nil ?_
    refine (X_then (hK11_ _ _ ?_))
    clear hK11_
    refine C_seq (fun K17_ hK17_ => ?_)
    refine C_reg ?_
    refine S_list (T_val (v := p12_) (x_move rfl) ?_)
    refine S_list (T_call (al := [p12_]) (pre := []) (F := F) rfl rfl cb63 (kGet R p12_ x14_ hop16_) H5_ ?_)
    rintro v27_ p28_ w24_ hq29_ S26_ H25_
    rcases hq29_ with ⟨hk18_, ⟨b19_, cs20_, rfl, hr21_, hs22_⟩, rfl⟩ | ⟨hk23_, rfl, rfl⟩
    · skip
      replace H25_ : Holds w24_ (ro R :: F) := H25_
      have S30_ := Same.trans S6_ S26_
      refine S_list (T_val (v := (Value.pointer (some ⟨b19_, 0, none⟩))) (x_assign rfl) ?_)
      refine wpList_nil ?_
      refine (X_then (hK17_ _ _ ?_))
      clear hK17_
      refine C_seq (fun K32_ hK32_ => ?_)
      refine C_reg ?_
      refine S_list (T_val (v := (Value.pointer (some ⟨b19_, 0, none⟩))) (x_move rfl) ?_)
      refine S_list (T_val (v := (Value.bool false)) (by kernel_rfl) ?_)
      refine wpList_nil ?_
      refine (X_then (hK32_ _ _ ?_))
      clear hK32_
      refine C_condF rfl ?_
      refine C_skip (X_blkN (X_then (hK10_ _ _ ?_)))
      clear hK10_
      refine C_reg ?_
      refine S_list (T_val (v := (Value.int .i64 ((k : Int) + 1))) (x_bin rfl rfl (ib_add (IntWalk.i64_in _ (by omega)))) ?_)
      refine S_list (T_val (v := (Value.int .i64 ((k : Int) + 1))) (x_move rfl) ?_)
      refine wpList_nil ?_
      refine (X_then ?_)
      exact ⟨k + 1, ⟨_, congrArg (fun e => mkA 37 e []) (ch (ch (ch (ch rfl (by first | rfl | exact congrArg (Value.int _) (by omega))) (by first | rfl | exact congrArg (Value.int _) (by omega))) (by first | rfl | exact congrArg (Value.int _) (by omega))) (by first | rfl | exact congrArg (Value.int _) (by omega))), H25_, S30_, by omega, fun i y hi hy => by
          rcases Nat.lt_or_ge i k with hlt | hge
          · exact hal i y hlt hy
          · obtain rfl : i = k := by omega
            rw [hx15_] at hy; cases hy; first | assumption | (refine ⟨by assumption, ?_⟩; simp_all)⟩, by first | omega | (simp; omega)⟩
    · skip
      replace H25_ : Holds w24_ (ro R :: F) := H25_
      have S31_ := Same.trans S6_ S26_
      refine S_list (T_val (v := (Value.pointer none)) (x_assign rfl) ?_)
      refine wpList_nil ?_
      refine (X_then (hK17_ _ _ ?_))
      clear hK17_
      refine C_seq (fun K33_ hK33_ => ?_)
      refine C_reg ?_
      refine S_list (T_val (v := (Value.pointer none)) (x_move rfl) ?_)
      refine S_list (T_val (v := (Value.bool true)) (by kernel_rfl) ?_)
      refine wpList_nil ?_
      refine (X_then (hK33_ _ _ ?_))
      clear hK33_
      refine C_condT rfl ?_
      refine C_seq (fun K34_ hK34_ => ?_)
      refine C_reg ?_
      refine S_list (T_val (v := (Value.bool false)) (x_assign rfl) ?_)
      refine wpList_nil ?_
      refine (X_then (hK34_ _ _ ?_))
      clear hK34_
      refine C_ret (X_blkR (X_thenR (X_thenR (X_blkR (X_thenR ?_)))))
      refine R_any (v := (Value.bool false)) (run_results1 rfl rfl) ?_
      exact ⟨_, [], rfl, ⟨by rw [show rdo tt = false from not_all hx15_ (by first | (simp; omega) | simp_all), Bool.false_and], rfl⟩, S31_, H25_⟩
  · have c9_fp : ¬ ((k : Int) < (tt.length : Int)) := of_decide_eq_false c9_f
    refine C_exit (X_thenX (X_thenX (X_blkHit ?_)))
    refine (X_then (hK2_ _ _ ?_))
    clear hK2_
    refine C_seq (fun K35_ hK35_ => ?_)
    refine C_seq (fun K36_ hK36_ => ?_)
    refine C_reg ?_
    refine S_list (T_val (v := (Value.pointer (some ⟨b, 0, none⟩))) (x_move rfl) ?_)
    refine S_list (T_val (v := (Value.pointer (some ⟨b, 0, none⟩))) (by kernel_rfl) ?_)
    refine S_list (T_val (v := (Value.pointer (some ⟨b, 2, none⟩))) (by kernel_rfl) ?_)
    refine S_list (T_val (v := ve) (x_load1 rfl Try.underlying125 rfl (RC.cell hb (Holds.ro_at H5_ 0 rfl) (j := 2) (u := ve) (rfl))) ?_)
    refine S_list (T_val (v := (Value.int .i64 (ee.length : Int))) (x_lenRS rfl he Try.underlying125) ?_)
    refine S_list (T_val (v := (Value.int .i64 0)) (x_move rfl) ?_)
    refine wpList_nil ?_
    refine (X_then (hK36_ _ _ ?_))
    clear hK36_
    refine C_block ?_
    refine C_loop (γ := Nat) (fun j a w1 => ∃ h : Env, a = mkA 37 (upd (upd (upd h 28 (Value.int .i64 (j : Int))) 26 ve) 27 (Value.int .i64 (ee.length : Int))) [] ∧ Holds w1 (ro R :: F) ∧ Same w w1 ∧ (j ≤ ee.length) ∧ (∀ (i : Nat) (y : ReqS), i < j → ee[i]? = some y → y.kind = 1)) (fun j => ee.length - j) (0) ⟨_, congrArg (fun e => mkA 37 e []) (ch (ch (ch rfl (by first | rfl | exact congrArg (Value.int _) (by omega))) (by first | rfl | exact congrArg (Value.int _) (by omega))) (by first | rfl | exact congrArg (Value.int _) (by omega))), H5_, S6_, by omega, fun i y hi => by omega⟩ ?_
    rintro j _ w37_ ⟨h, rfl, H38_, S39_, hj, hal2⟩
    refine C_seq (fun K40_ hK40_ => ?_)
    refine C_reg ?_
    refine S_list (T_val (v := (Value.bool (decide ((j : Int) < (ee.length : Int))))) (x_bin rfl rfl rfl) ?_)
    refine wpList_nil ?_
    refine (X_then (hK40_ _ _ ?_))
    clear hK40_
    refine C_seq (fun K41_ hK41_ => ?_)
    refine C_cond (b := decide ((j : Int) < (ee.length : Int))) rfl (fun c42_t => ?_) (fun c42_f => ?_)
    · have c42_tp : (j : Int) < (ee.length : Int) := of_decide_eq_true c42_t
      refine C_skip (X_then (hK41_ _ _ ?_))
      clear hK41_
      refine C_seq (fun K43_ hK43_ => ?_)
      refine C_block ?_
      refine C_seq (fun K44_ hK44_ => ?_)
      refine C_reg ?_
      obtain ⟨p45_, hp46_, -⟩ := elem_at pe j (by have := hoe.1; omega)
      obtain ⟨x47_, hx48_, -⟩ := elem_at ee j (by omega)
      have hop49_ := hoe.2 j p45_ x47_ hp46_ hx48_
      refine S_list (T_val (v := (Value.pointer (some ⟨(sb ve), so ve + j, none⟩))) (x_idxRS (v := ve) rfl he rfl Try.underlying125 z128 (by omega) (by omega) (by omega : _ = j) (by rw [Nat.mul_one])) ?_)
      refine S_list (T_val (v := p45_) (x_load1 rfl Try.underlying128 rfl (RC.cell (RS.rc he) (Holds.ro_at H38_ 0 rfl) (j := j) (u := p45_) (hp46_))) ?_)
      refine S_list (T_val (v := p45_) (x_assign rfl) ?_)
      refine wpList_nil ?_
      refine (X_then (hK44_ _ _ ?_))
      clear hK44_
      refine C_seq (fun K50_ hK50_ => ?_)
      refine C_reg ?_
      refine S_list (T_val (v := p45_) (x_move rfl) ?_)
      refine S_list (T_call (al := [p45_]) (pre := []) (F := F) rfl rfl cb63 (kGet R p45_ x47_ hop49_) H38_ ?_)
      rintro v60_ p61_ w57_ hq62_ S59_ H58_
      rcases hq62_ with ⟨hk51_, ⟨b52_, cs53_, rfl, hr54_, hs55_⟩, rfl⟩ | ⟨hk56_, rfl, rfl⟩
      · skip
        replace H58_ : Holds w57_ (ro R :: F) := H58_
        have S63_ := Same.trans S39_ S59_
        refine S_list (T_val (v := (Value.pointer (some ⟨b52_, 0, none⟩))) (x_assign rfl) ?_)
        refine wpList_nil ?_
        refine (X_then (hK50_ _ _ ?_))
        clear hK50_
        refine C_seq (fun K65_ hK65_ => ?_)
        refine C_reg ?_
        refine S_list (T_val (v := (Value.pointer (some ⟨b52_, 0, none⟩))) (x_move rfl) ?_)
        refine S_list (T_val (v := (Value.bool false)) (by kernel_rfl) ?_)
        refine wpList_nil ?_
        refine (X_then (hK65_ _ _ ?_))
        clear hK65_
        refine C_condF rfl ?_
        refine C_skip (X_blkN (X_then (hK43_ _ _ ?_)))
        clear hK43_
        refine C_reg ?_
        refine S_list (T_val (v := (Value.int .i64 ((j : Int) + 1))) (x_bin rfl rfl (ib_add (IntWalk.i64_in _ (by omega)))) ?_)
        refine S_list (T_val (v := (Value.int .i64 ((j : Int) + 1))) (x_move rfl) ?_)
        refine wpList_nil ?_
        refine (X_then ?_)
        exact ⟨j + 1, ⟨_, congrArg (fun e => mkA 37 e []) (ch (ch (ch rfl (by first | rfl | exact congrArg (Value.int _) (by omega))) (by first | rfl | exact congrArg (Value.int _) (by omega))) (by first | rfl | exact congrArg (Value.int _) (by omega))), H58_, S63_, by omega, fun i y hi hy => by
          rcases Nat.lt_or_ge i j with hlt | hge
          · exact hal2 i y hlt hy
          · obtain rfl : i = j := by omega
            rw [hx48_] at hy; cases hy; first | assumption | (refine ⟨by assumption, ?_⟩; simp_all)⟩, by first | omega | (simp; omega)⟩
      · skip
        replace H58_ : Holds w57_ (ro R :: F) := H58_
        have S64_ := Same.trans S39_ S59_
        refine S_list (T_val (v := (Value.pointer none)) (x_assign rfl) ?_)
        refine wpList_nil ?_
        refine (X_then (hK50_ _ _ ?_))
        clear hK50_
        refine C_seq (fun K66_ hK66_ => ?_)
        refine C_reg ?_
        refine S_list (T_val (v := (Value.pointer none)) (x_move rfl) ?_)
        refine S_list (T_val (v := (Value.bool true)) (by kernel_rfl) ?_)
        refine wpList_nil ?_
        refine (X_then (hK66_ _ _ ?_))
        clear hK66_
        refine C_condT rfl ?_
        refine C_seq (fun K67_ hK67_ => ?_)
        refine C_reg ?_
        refine S_list (T_val (v := (Value.bool false)) (x_assign rfl) ?_)
        refine wpList_nil ?_
        refine (X_then (hK67_ _ _ ?_))
        clear hK67_
        refine C_ret (X_blkR (X_thenR (X_thenR (X_blkR (X_thenR ?_)))))
        refine R_any (v := (Value.bool false)) (run_results1 rfl rfl) ?_
        exact ⟨_, [], rfl, ⟨by rw [show rdo ee = false from not_all hx48_ (by first | (simp; omega) | simp_all), Bool.and_false], rfl⟩, S64_, H58_⟩
    · have c42_fp : ¬ ((j : Int) < (ee.length : Int)) := of_decide_eq_false c42_f
      refine C_exit (X_thenX (X_thenX (X_blkHit ?_)))
      refine (X_then (hK35_ _ _ ?_))
      clear hK35_
      refine C_seq (fun K68_ hK68_ => ?_)
      refine C_reg ?_
      refine S_list (T_val (v := (Value.bool true)) (x_assign rfl) ?_)
      refine wpList_nil ?_
      refine (X_then (hK68_ _ _ ?_))
      clear hK68_
      refine C_ret ?_
      refine R_any (v := (Value.bool true)) (run_results1 rfl rfl) ?_
      exact ⟨_, [], rfl, ⟨by rw [show rdo tt = true from all_of fun i y hi hy => by simpa using hal i y (by omega) hy, show rdo ee = true from all_of fun i y hi hy => by simpa using hal2 i y (by omega) hy]; rfl, rfl⟩, S39_, H38_⟩

set_option maxHeartbeats 400000 in
theorem kIsSer (R : HP) (b : Nat) (C vt ve : Value) (pt pe : List Value) (tt ee : List ReqS) (hb : RC R b 0 [C, vt, ve]) (ht : RS R 1 vt tt.length pt) (he : RS R 1 ve ee.length pe) (hot : OpsAt R pt tt) (hoe : OpsAt R pe ee) (htl : tt.length ≤ 16) (hel : ee.length ≤ 16) :
    Tri Try.prog 44 #[(Value.pointer (some ⟨b, 0, none⟩))] R [] (fun v post => v = .bool (srl tt && srl ee) ∧ post = []) := by
  refine Tri.into (n := 51) (al := [(Value.pointer (some ⟨b, 0, none⟩))]) Try.func44 rfl Try.ntmps44 rfl rfl fun w F H => ?_
  replace H : Holds w (ro R :: F) := H
  refine C_seq (fun K1_ hK1_ => ?_)
  refine C_reg ?_
  refine S_list (T_val (v := (Value.bool false)) (x_assign rfl) ?_)
  refine wpList_nil ?_
  refine (X_then (hK1_ _ _ ?_))
  clear hK1_
  refine C_seq (fun K2_ hK2_ => ?_)
  refine C_seq (fun K3_ hK3_ => ?_)
  refine C_reg ?_
  refine S_list (T_val (v := (Value.pointer (some ⟨b, 0, none⟩))) (x_move rfl) ?_)
  refine S_list (T_val (v := (Value.pointer (some ⟨b, 0, none⟩))) (by kernel_rfl) ?_)
  refine S_list (T_val (v := (Value.pointer (some ⟨b, 1, none⟩))) (by kernel_rfl) ?_)
  refine S_list (T_val (v := vt) (x_load1 rfl Try.underlying125 rfl (RC.cell hb (Holds.ro_at H 0 rfl) (j := 1) (u := vt) (rfl))) ?_)
  refine S_list (T_val (v := (Value.int .i64 (tt.length : Int))) (x_lenRS rfl ht Try.underlying125) ?_)
  refine S_list (T_val (v := (Value.int .i64 0)) (x_move rfl) ?_)
  refine wpList_nil ?_
  refine (X_then (hK3_ _ _ ?_))
  clear hK3_
  refine C_block ?_
  refine C_loop (γ := Nat) (fun k a w1 => ∃ h : Env, a = mkA 51 (upd (upd (upd (upd h 14 (Value.int .i64 (k : Int))) 0 (Value.pointer (some ⟨b, 0, none⟩))) 12 vt) 13 (Value.int .i64 (tt.length : Int))) [] ∧ Holds w1 (ro R :: F) ∧ Same w w1 ∧ (k ≤ tt.length) ∧ (∀ (i : Nat) (y : ReqS), i < k → tt[i]? = some y → y.kind = 1 ∧ y.prev = true)) (fun k => tt.length - k) (0) ⟨_, congrArg (fun e => mkA 51 e []) (ch (ch (ch (ch rfl (by first | rfl | exact congrArg (Value.int _) (by omega))) (by first | rfl | exact congrArg (Value.int _) (by omega))) (by first | rfl | exact congrArg (Value.int _) (by omega))) (by first | rfl | exact congrArg (Value.int _) (by omega))), H, (Same.refl w), by omega, fun i y hi => by omega⟩ ?_
  rintro k _ w4_ ⟨h, rfl, H5_, S6_, hk, hal⟩
  refine C_seq (fun K7_ hK7_ => ?_)
  refine C_reg ?_
  refine S_list (T_val (v := (Value.bool (decide ((k : Int) < (tt.length : Int))))) (x_bin rfl rfl rfl) ?_)
  refine wpList_nil ?_
  refine (X_then (hK7_ _ _ ?_))
  clear hK7_
  refine C_seq (fun K8_ hK8_ => ?_)
  refine C_cond (b := decide ((k : Int) < (tt.length : Int))) rfl (fun c9_t => ?_) (fun c9_f => ?_)
  · have c9_tp : (k : Int) < (tt.length : Int) := of_decide_eq_true c9_t
    refine C_skip (X_then (hK8_ _ _ ?_))
    clear hK8_
    refine C_seq (fun K10_ hK10_ => ?_)
    refine C_block ?_
    refine C_seq (fun K11_ hK11_ => ?_)
    refine C_reg ?_
    obtain ⟨p12_, hp13_, -⟩ := elem_at pt k (by have := hot.1; omega)
    obtain ⟨x14_, hx15_, -⟩ := elem_at tt k (by omega)
    have hop16_ := hot.2 k p12_ x14_ hp13_ hx15_
    refine S_list (T_val (v := (Value.pointer (some ⟨(sb vt), so vt + k, none⟩))) (x_idxRS (v := vt) rfl ht rfl Try.underlying125 z128 (by omega) (by omega) (by omega : _ = k) (by rw [Nat.mul_one])) ?_)
    refine S_list (T_val (v := p12_) (x_load1 rfl Try.underlying128 rfl (RC.cell (RS.rc ht) (Holds.ro_at H5_ 0 rfl) (j := k) (u := p12_) (hp13_))) ?_)
    refine S_list (T_val (v := p12_) (x_assign rfl) ?_)
    refine wpList_nil ?_
    refine (X_then (hK11_ _ _ ?_))
    clear hK11_
    refine C_seq (fun K17_ hK17_ => ?_)
    refine C_reg ?_
    refine S_list (T_val (v := p12_) (x_move rfl) ?_)
    refine S_list (T_call (al := [p12_]) (pre := []) (F := F) rfl rfl cb63 (kGet R p12_ x14_ hop16_) H5_ ?_)
    rintro v27_ p28_ w24_ hq29_ S26_ H25_
    rcases hq29_ with ⟨hk18_, ⟨b19_, cs20_, rfl, hr21_, hs22_⟩, rfl⟩ | ⟨hk23_, rfl, rfl⟩
    · skip
      replace H25_ : Holds w24_ (ro R :: F) := H25_
      have S30_ := Same.trans S6_ S26_
      refine S_list (T_val (v := (Value.pointer (some ⟨b19_, 0, none⟩))) (x_assign rfl) ?_)
      refine wpList_nil ?_
      refine (X_then (hK17_ _ _ ?_))
      clear hK17_
      refine C_seq (fun K32_ hK32_ => ?_)
      refine C_reg ?_
      refine S_list (T_val (v := (Value.pointer (some ⟨b19_, 0, none⟩))) (x_move rfl) ?_)
      refine S_list (T_val (v := (Value.bool false)) (by kernel_rfl) ?_)
      refine S_list (T_val (v := (Value.bool false)) (x_move rfl) ?_)
      refine S_yes (j := 2) (dj := 22) (b := false) rfl rfl rfl (T_val (v := (Value.pointer (some ⟨b19_, 0, none⟩))) (x_move rfl) ?_)
      refine S_yes (j := 2) (dj := 22) (b := false) rfl rfl rfl (T_val (v := (Value.pointer (some ⟨b19_, 0, none⟩))) (by kernel_rfl) ?_)
      refine S_yes (j := 2) (dj := 22) (b := false) rfl rfl rfl (T_val (v := (Value.pointer (some ⟨b19_, 6, none⟩))) (by kernel_rfl) ?_)
      refine S_yes (j := 2) (dj := 22) (b := false) rfl rfl rfl (T_val (v := (Value.bool x14_.prev)) (x_load1 rfl Try.underlying4 rfl (RC.cell hr21_ (Holds.ro_at H25_ 0 rfl) (j := 6) (u := (Value.bool x14_.prev)) (hs22_))) ?_)
      refine S_yes (j := 2) (dj := 22) (b := false) rfl rfl rfl (T_val (v := (Value.bool (!x14_.prev))) (x_not rfl) ?_)
      refine S_list (T_pickF (v := (Value.bool (!x14_.prev))) rfl rfl ?_)
      refine wpList_nil ?_
      refine (X_then (hK32_ _ _ ?_))
      clear hK32_
      refine C_cond (b := !x14_.prev) rfl (fun c33_t => ?_) (fun c33_f => ?_)
      · skip
        refine C_seq (fun K34_ hK34_ => ?_)
        refine C_reg ?_
        refine S_list (T_val (v := (Value.bool false)) (x_assign rfl) ?_)
        refine wpList_nil ?_
        refine (X_then (hK34_ _ _ ?_))
        clear hK34_
        refine C_ret (X_blkR (X_thenR (X_thenR (X_blkR (X_thenR ?_)))))
        refine R_any (v := (Value.bool false)) (run_results1 rfl rfl) ?_
        exact ⟨_, [], rfl, ⟨by rw [show srl tt = false from not_all hx15_ (by first | (simp; omega) | simp_all), Bool.false_and], rfl⟩, S30_, H25_⟩
      · skip
        refine C_skip (X_blkN (X_then (hK10_ _ _ ?_)))
        clear hK10_
        refine C_reg ?_
        refine S_list (T_val (v := (Value.int .i64 ((k : Int) + 1))) (x_bin rfl rfl (ib_add (IntWalk.i64_in _ (by omega)))) ?_)
        refine S_list (T_val (v := (Value.int .i64 ((k : Int) + 1))) (x_move rfl) ?_)
        refine wpList_nil ?_
        refine (X_then ?_)
        exact ⟨k + 1, ⟨_, congrArg (fun e => mkA 51 e []) (ch (ch (ch (ch rfl (by first | rfl | exact congrArg (Value.int _) (by omega))) (by first | rfl | exact congrArg (Value.int _) (by omega))) (by first | rfl | exact congrArg (Value.int _) (by omega))) (by first | rfl | exact congrArg (Value.int _) (by omega))), H25_, S30_, by omega, fun i y hi hy => by
          rcases Nat.lt_or_ge i k with hlt | hge
          · exact hal i y hlt hy
          · obtain rfl : i = k := by omega
            rw [hx15_] at hy; cases hy; first | assumption | (refine ⟨by assumption, ?_⟩; simp_all)⟩, by first | omega | (simp; omega)⟩
    · skip
      replace H25_ : Holds w24_ (ro R :: F) := H25_
      have S31_ := Same.trans S6_ S26_
      refine S_list (T_val (v := (Value.pointer none)) (x_assign rfl) ?_)
      refine wpList_nil ?_
      refine (X_then (hK17_ _ _ ?_))
      clear hK17_
      refine C_seq (fun K35_ hK35_ => ?_)
      refine C_reg ?_
      refine S_list (T_val (v := (Value.pointer none)) (x_move rfl) ?_)
      refine S_list (T_val (v := (Value.bool true)) (by kernel_rfl) ?_)
      refine S_list (T_val (v := (Value.bool true)) (x_move rfl) ?_)
      refine S_no (j := 2) (dj := 22) (b := true) rfl rfl rfl (by decide) ?_
      refine S_no (j := 2) (dj := 22) (b := true) rfl rfl rfl (by decide) ?_
      refine S_no (j := 2) (dj := 22) (b := true) rfl rfl rfl (by decide) ?_
      refine S_no (j := 2) (dj := 22) (b := true) rfl rfl rfl (by decide) ?_
      refine S_no (j := 2) (dj := 22) (b := true) rfl rfl rfl (by decide) ?_
      refine S_list (T_pickT (v := (Value.bool true)) rfl rfl ?_)
      refine wpList_nil ?_
      refine (X_then (hK35_ _ _ ?_))
      clear hK35_
      refine C_condT rfl ?_
      refine C_seq (fun K36_ hK36_ => ?_)
      refine C_reg ?_
      refine S_list (T_val (v := (Value.bool false)) (x_assign rfl) ?_)
      refine wpList_nil ?_
      refine (X_then (hK36_ _ _ ?_))
      clear hK36_
      refine C_ret (X_blkR (X_thenR (X_thenR (X_blkR (X_thenR ?_)))))
      refine R_any (v := (Value.bool false)) (run_results1 rfl rfl) ?_
      exact ⟨_, [], rfl, ⟨by rw [show srl tt = false from not_all hx15_ (by first | (simp; omega) | simp_all), Bool.false_and], rfl⟩, S31_, H25_⟩
  · have c9_fp : ¬ ((k : Int) < (tt.length : Int)) := of_decide_eq_false c9_f
    refine C_exit (X_thenX (X_thenX (X_blkHit ?_)))
    refine (X_then (hK2_ _ _ ?_))
    clear hK2_
    refine C_seq (fun K37_ hK37_ => ?_)
    refine C_seq (fun K38_ hK38_ => ?_)
    refine C_reg ?_
    refine S_list (T_val (v := (Value.pointer (some ⟨b, 0, none⟩))) (x_move rfl) ?_)
    refine S_list (T_val (v := (Value.pointer (some ⟨b, 0, none⟩))) (by kernel_rfl) ?_)
    refine S_list (T_val (v := (Value.pointer (some ⟨b, 2, none⟩))) (by kernel_rfl) ?_)
    refine S_list (T_val (v := ve) (x_load1 rfl Try.underlying125 rfl (RC.cell hb (Holds.ro_at H5_ 0 rfl) (j := 2) (u := ve) (rfl))) ?_)
    refine S_list (T_val (v := (Value.int .i64 (ee.length : Int))) (x_lenRS rfl he Try.underlying125) ?_)
    refine S_list (T_val (v := (Value.int .i64 0)) (x_move rfl) ?_)
    refine wpList_nil ?_
    refine (X_then (hK38_ _ _ ?_))
    clear hK38_
    refine C_block ?_
    refine C_loop (γ := Nat) (fun j a w1 => ∃ h : Env, a = mkA 51 (upd (upd (upd h 35 (Value.int .i64 (j : Int))) 33 ve) 34 (Value.int .i64 (ee.length : Int))) [] ∧ Holds w1 (ro R :: F) ∧ Same w w1 ∧ (j ≤ ee.length) ∧ (∀ (i : Nat) (y : ReqS), i < j → ee[i]? = some y → y.kind = 1 ∧ y.prev = true)) (fun j => ee.length - j) (0) ⟨_, congrArg (fun e => mkA 51 e []) (ch (ch (ch rfl (by first | rfl | exact congrArg (Value.int _) (by omega))) (by first | rfl | exact congrArg (Value.int _) (by omega))) (by first | rfl | exact congrArg (Value.int _) (by omega))), H5_, S6_, by omega, fun i y hi => by omega⟩ ?_
    rintro j _ w39_ ⟨h, rfl, H40_, S41_, hj, hal2⟩
    refine C_seq (fun K42_ hK42_ => ?_)
    refine C_reg ?_
    refine S_list (T_val (v := (Value.bool (decide ((j : Int) < (ee.length : Int))))) (x_bin rfl rfl rfl) ?_)
    refine wpList_nil ?_
    refine (X_then (hK42_ _ _ ?_))
    clear hK42_
    refine C_seq (fun K43_ hK43_ => ?_)
    refine C_cond (b := decide ((j : Int) < (ee.length : Int))) rfl (fun c44_t => ?_) (fun c44_f => ?_)
    · have c44_tp : (j : Int) < (ee.length : Int) := of_decide_eq_true c44_t
      refine C_skip (X_then (hK43_ _ _ ?_))
      clear hK43_
      refine C_seq (fun K45_ hK45_ => ?_)
      refine C_block ?_
      refine C_seq (fun K46_ hK46_ => ?_)
      refine C_reg ?_
      obtain ⟨p47_, hp48_, -⟩ := elem_at pe j (by have := hoe.1; omega)
      obtain ⟨x49_, hx50_, -⟩ := elem_at ee j (by omega)
      have hop51_ := hoe.2 j p47_ x49_ hp48_ hx50_
      refine S_list (T_val (v := (Value.pointer (some ⟨(sb ve), so ve + j, none⟩))) (x_idxRS (v := ve) rfl he rfl Try.underlying125 z128 (by omega) (by omega) (by omega : _ = j) (by rw [Nat.mul_one])) ?_)
      refine S_list (T_val (v := p47_) (x_load1 rfl Try.underlying128 rfl (RC.cell (RS.rc he) (Holds.ro_at H40_ 0 rfl) (j := j) (u := p47_) (hp48_))) ?_)
      refine S_list (T_val (v := p47_) (x_assign rfl) ?_)
      refine wpList_nil ?_
      refine (X_then (hK46_ _ _ ?_))
      clear hK46_
      refine C_seq (fun K52_ hK52_ => ?_)
      refine C_reg ?_
      refine S_list (T_val (v := p47_) (x_move rfl) ?_)
      refine S_list (T_call (al := [p47_]) (pre := []) (F := F) rfl rfl cb63 (kGet R p47_ x49_ hop51_) H40_ ?_)
      rintro v62_ p63_ w59_ hq64_ S61_ H60_
      rcases hq64_ with ⟨hk53_, ⟨b54_, cs55_, rfl, hr56_, hs57_⟩, rfl⟩ | ⟨hk58_, rfl, rfl⟩
      · skip
        replace H60_ : Holds w59_ (ro R :: F) := H60_
        have S65_ := Same.trans S41_ S61_
        refine S_list (T_val (v := (Value.pointer (some ⟨b54_, 0, none⟩))) (x_assign rfl) ?_)
        refine wpList_nil ?_
        refine (X_then (hK52_ _ _ ?_))
        clear hK52_
        refine C_seq (fun K67_ hK67_ => ?_)
        refine C_reg ?_
        refine S_list (T_val (v := (Value.pointer (some ⟨b54_, 0, none⟩))) (x_move rfl) ?_)
        refine S_list (T_val (v := (Value.bool false)) (by kernel_rfl) ?_)
        refine S_list (T_val (v := (Value.bool false)) (x_move rfl) ?_)
        refine S_yes (j := 2) (dj := 43) (b := false) rfl rfl rfl (T_val (v := (Value.pointer (some ⟨b54_, 0, none⟩))) (x_move rfl) ?_)
        refine S_yes (j := 2) (dj := 43) (b := false) rfl rfl rfl (T_val (v := (Value.pointer (some ⟨b54_, 0, none⟩))) (by kernel_rfl) ?_)
        refine S_yes (j := 2) (dj := 43) (b := false) rfl rfl rfl (T_val (v := (Value.pointer (some ⟨b54_, 6, none⟩))) (by kernel_rfl) ?_)
        refine S_yes (j := 2) (dj := 43) (b := false) rfl rfl rfl (T_val (v := (Value.bool x49_.prev)) (x_load1 rfl Try.underlying4 rfl (RC.cell hr56_ (Holds.ro_at H60_ 0 rfl) (j := 6) (u := (Value.bool x49_.prev)) (hs57_))) ?_)
        refine S_yes (j := 2) (dj := 43) (b := false) rfl rfl rfl (T_val (v := (Value.bool (!x49_.prev))) (x_not rfl) ?_)
        refine S_list (T_pickF (v := (Value.bool (!x49_.prev))) rfl rfl ?_)
        refine wpList_nil ?_
        refine (X_then (hK67_ _ _ ?_))
        clear hK67_
        refine C_cond (b := !x49_.prev) rfl (fun c68_t => ?_) (fun c68_f => ?_)
        · skip
          refine C_seq (fun K69_ hK69_ => ?_)
          refine C_reg ?_
          refine S_list (T_val (v := (Value.bool false)) (x_assign rfl) ?_)
          refine wpList_nil ?_
          refine (X_then (hK69_ _ _ ?_))
          clear hK69_
          refine C_ret (X_blkR (X_thenR (X_thenR (X_blkR (X_thenR ?_)))))
          refine R_any (v := (Value.bool false)) (run_results1 rfl rfl) ?_
          exact ⟨_, [], rfl, ⟨by rw [show srl ee = false from not_all hx50_ (by first | (simp; omega) | simp_all), Bool.and_false], rfl⟩, S65_, H60_⟩
        · skip
          refine C_skip (X_blkN (X_then (hK45_ _ _ ?_)))
          clear hK45_
          refine C_reg ?_
          refine S_list (T_val (v := (Value.int .i64 ((j : Int) + 1))) (x_bin rfl rfl (ib_add (IntWalk.i64_in _ (by omega)))) ?_)
          refine S_list (T_val (v := (Value.int .i64 ((j : Int) + 1))) (x_move rfl) ?_)
          refine wpList_nil ?_
          refine (X_then ?_)
          exact ⟨j + 1, ⟨_, congrArg (fun e => mkA 51 e []) (ch (ch (ch rfl (by first | rfl | exact congrArg (Value.int _) (by omega))) (by first | rfl | exact congrArg (Value.int _) (by omega))) (by first | rfl | exact congrArg (Value.int _) (by omega))), H60_, S65_, by omega, fun i y hi hy => by
          rcases Nat.lt_or_ge i j with hlt | hge
          · exact hal2 i y hlt hy
          · obtain rfl : i = j := by omega
            rw [hx50_] at hy; cases hy; first | assumption | (refine ⟨by assumption, ?_⟩; simp_all)⟩, by first | omega | (simp; omega)⟩
      · skip
        replace H60_ : Holds w59_ (ro R :: F) := H60_
        have S66_ := Same.trans S41_ S61_
        refine S_list (T_val (v := (Value.pointer none)) (x_assign rfl) ?_)
        refine wpList_nil ?_
        refine (X_then (hK52_ _ _ ?_))
        clear hK52_
        refine C_seq (fun K70_ hK70_ => ?_)
        refine C_reg ?_
        refine S_list (T_val (v := (Value.pointer none)) (x_move rfl) ?_)
        refine S_list (T_val (v := (Value.bool true)) (by kernel_rfl) ?_)
        refine S_list (T_val (v := (Value.bool true)) (x_move rfl) ?_)
        refine S_no (j := 2) (dj := 43) (b := true) rfl rfl rfl (by decide) ?_
        refine S_no (j := 2) (dj := 43) (b := true) rfl rfl rfl (by decide) ?_
        refine S_no (j := 2) (dj := 43) (b := true) rfl rfl rfl (by decide) ?_
        refine S_no (j := 2) (dj := 43) (b := true) rfl rfl rfl (by decide) ?_
        refine S_no (j := 2) (dj := 43) (b := true) rfl rfl rfl (by decide) ?_
        refine S_list (T_pickT (v := (Value.bool true)) rfl rfl ?_)
        refine wpList_nil ?_
        refine (X_then (hK70_ _ _ ?_))
        clear hK70_
        refine C_condT rfl ?_
        refine C_seq (fun K71_ hK71_ => ?_)
        refine C_reg ?_
        refine S_list (T_val (v := (Value.bool false)) (x_assign rfl) ?_)
        refine wpList_nil ?_
        refine (X_then (hK71_ _ _ ?_))
        clear hK71_
        refine C_ret (X_blkR (X_thenR (X_thenR (X_blkR (X_thenR ?_)))))
        refine R_any (v := (Value.bool false)) (run_results1 rfl rfl) ?_
        exact ⟨_, [], rfl, ⟨by rw [show srl ee = false from not_all hx50_ (by first | (simp; omega) | simp_all), Bool.and_false], rfl⟩, S66_, H60_⟩
    · have c44_fp : ¬ ((j : Int) < (ee.length : Int)) := of_decide_eq_false c44_f
      refine C_exit (X_thenX (X_thenX (X_blkHit ?_)))
      refine (X_then (hK37_ _ _ ?_))
      clear hK37_
      refine C_seq (fun K72_ hK72_ => ?_)
      refine C_reg ?_
      refine S_list (T_val (v := (Value.bool true)) (x_assign rfl) ?_)
      refine wpList_nil ?_
      refine (X_then (hK72_ _ _ ?_))
      clear hK72_
      refine C_ret ?_
      refine R_any (v := (Value.bool true)) (run_results1 rfl rfl) ?_
      exact ⟨_, [], rfl, ⟨by rw [show srl tt = true from all_of fun i y hi hy => by simpa using hal i y (by omega) hy, show srl ee = true from all_of fun i y hi hy => by simpa using hal2 i y (by omega) hy]; rfl, rfl⟩, S41_, H40_⟩
end Go.Proofs.Ytfdnfnjmphjdnaa
