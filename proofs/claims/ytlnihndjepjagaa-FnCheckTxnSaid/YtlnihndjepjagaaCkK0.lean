/- An operation is checked. -/
import Derived.Test.YtlnihndjepjagaaCkJ0
set_option linter.unusedVariables false
set_option linter.unusedSimpArgs false
namespace Go.Proofs.Ytlnihndjepjagaa
open Go Go.RowKit Gw

set_option maxHeartbeats 400000 in
theorem ckReqOp1 (R : HP) (b : Nat) (x : RT) (most : Int) (n__ : Nat) (b1 b2 : Nat) (hP : Pln x) (hmo : 0 ≤ most ∧ most ≤ 1048576) (hsx : x.sz < n__) (ih : ∀ (R : HP) (b : Nat) (x : RT) (most : Int) (hr : TxnAt R b x) (h4 : x.q.kind = 4) (hP : Pln x) (hmo : 0 ≤ most ∧ most ≤ 1048576) (hms : x.sz < n__), Tri Try.prog 71 #[(Value.pointer (some ⟨b, 0, none⟩)), (Value.int .i64 most)] R [] (fun v__ post__ => (v__ = (Value.nilIface) ∧ post__ = [] ∧ (refT x most = 0)) ∨ (v__ = (Value.iface 133 (Value.string (ByteArray.mk #[101, 116, 99, 100, 115, 101, 114, 118, 101, 114, 58, 32, 107, 101, 121, 32, 105, 115, 32, 110, 111, 116, 32, 112, 114, 111, 118, 105, 100, 101, 100]))) ∧ post__ = [] ∧ (refT x most = 1)) ∨ (v__ = (Value.iface 133 (Value.string (ByteArray.mk #[101, 116, 99, 100, 115, 101, 114, 118, 101, 114, 58, 32, 116, 111, 111, 32, 109, 97, 110, 121, 32, 111, 112, 101, 114, 97, 116, 105, 111, 110, 115, 32, 105, 110, 32, 116, 120, 110, 32, 114, 101, 113, 117, 101, 115, 116]))) ∧ post__ = [] ∧ (refT x most = 4)) ∨ (v__ = (Value.iface 133 (Value.string (ByteArray.mk #[101, 116, 99, 100, 115, 101, 114, 118, 101, 114, 58, 32, 105, 110, 118, 97, 108, 105, 100, 32, 115, 111, 114, 116, 32, 111, 112, 116, 105, 111, 110]))) ∧ post__ = [] ∧ (refT x most = 6)))) (h1 : x.q.kind = 1) (hc : RC R b 0 [.iface 150 (pv b1)]) (hc1 : RC R b1 0 [pv b2]) (hr : RngAt R b2 x) :
    Tri Try.prog 88 #[(Value.pointer (some ⟨b, 0, none⟩)), (Value.int .i64 most)] R [] (fun v__ post__ => (v__ = (Value.nilIface) ∧ post__ = [] ∧ (refT x most = 0)) ∨ (v__ = (Value.iface 133 (Value.string (ByteArray.mk #[101, 116, 99, 100, 115, 101, 114, 118, 101, 114, 58, 32, 107, 101, 121, 32, 105, 115, 32, 110, 111, 116, 32, 112, 114, 111, 118, 105, 100, 101, 100]))) ∧ post__ = [] ∧ (refT x most = 1)) ∨ (v__ = (Value.iface 133 (Value.string (ByteArray.mk #[101, 116, 99, 100, 115, 101, 114, 118, 101, 114, 58, 32, 116, 111, 111, 32, 109, 97, 110, 121, 32, 111, 112, 101, 114, 97, 116, 105, 111, 110, 115, 32, 105, 110, 32, 116, 120, 110, 32, 114, 101, 113, 117, 101, 115, 116]))) ∧ post__ = [] ∧ (refT x most = 4)) ∨ (v__ = (Value.iface 133 (Value.string (ByteArray.mk #[101, 116, 99, 100, 115, 101, 114, 118, 101, 114, 58, 32, 105, 110, 118, 97, 108, 105, 100, 32, 115, 111, 114, 116, 32, 111, 112, 116, 105, 111, 110]))) ∧ post__ = [] ∧ (refT x most = 6))) := by
 refine Tri.into (n := 48) (al := [(Value.pointer (some ⟨b, 0, none⟩)), (Value.int .i64 most)]) Try.func88 rfl Try.ntmps88 rfl rfl fun w F H => ?_
 refine C_seq (fun K1_ hK1_ => ?_)
 refine C_reg ?_
 refine S_list (T_val (v := (Value.nilIface)) (x_assign rfl) ?_)
 refine wpList_nil ?_
 refine (X_then (hK1_ _ _ ?_))
 clear hK1_
 refine C_seq (fun K2_ hK2_ => ?_)
 refine C_reg ?_
 refine S_list (T_val (v := (Value.pointer (some ⟨b, 0, none⟩))) (x_move rfl) ?_)
 refine S_list (T_val (v := (Value.pointer (some ⟨b, 0, none⟩))) (by kernel_rfl) ?_)
 refine S_list (T_val (v := (Value.pointer (some ⟨b, 0, none⟩))) (by kernel_rfl) ?_)
 refine S_list (T_val (v := (Value.iface 150 (Value.pointer (some ⟨b1, 0, none⟩)))) (x_load1 rfl Try.underlying20 rfl (RC.cell hc (Holds.ro_at H 0 rfl) (j := 0) (u := (Value.iface 150 (Value.pointer (some ⟨b1, 0, none⟩)))) (rfl))) ?_)
 refine wpList_nil ?_
 refine (X_then (hK2_ _ _ ?_))
 clear hK2_
 refine C_block ?_
 refine C_seq (fun K3_ hK3_ => ?_)
 refine C_reg ?_
 refine S_list (T_val (v := (Value.tuple #[(Value.pointer (some ⟨b1, 0, none⟩)), (Value.bool true)])) (by kernel_rfl) ?_)
 refine S_list (T_val (v := (Value.bool true)) (by kernel_rfl) ?_)
 refine S_list (T_val (v := (Value.pointer (some ⟨b1, 0, none⟩))) (by kernel_rfl) ?_)
 refine wpList_nil ?_
 refine (X_then (hK3_ _ _ ?_))
 clear hK3_
 refine C_condT rfl ?_
 refine C_seq (fun K4_ hK4_ => ?_)
 refine C_reg ?_
 refine S_list (T_val (v := (Value.pointer (some ⟨b1, 0, none⟩))) (x_assign rfl) ?_)
 refine wpList_nil ?_
 refine (X_then (hK4_ _ _ ?_))
 clear hK4_
 refine C_seq (fun K5_ hK5_ => ?_)
 refine C_reg ?_
 refine S_list (T_val (v := (Value.pointer (some ⟨b1, 0, none⟩))) (x_move rfl) ?_)
 refine S_list (T_val (v := (Value.pointer (some ⟨b1, 0, none⟩))) (by kernel_rfl) ?_)
 refine S_list (T_val (v := (Value.pointer (some ⟨b1, 0, none⟩))) (by kernel_rfl) ?_)
 refine S_list (T_val (v := (Value.pointer (some ⟨b2, 0, none⟩))) (x_load1 rfl Try.underlying86 rfl (RC.cell hc1 (Holds.ro_at H 0 rfl) (j := 0) (u := (Value.pointer (some ⟨b2, 0, none⟩))) (rfl))) ?_)
 refine S_list (T_call (al := [(Value.pointer (some ⟨b2, 0, none⟩))]) (pre := []) rfl rfl cb66 (ckRangeReq R b2 x most (hr) (h1)) H ?_)
 rintro v6_ p13_ w10_ hq14_ S12_ H11_
 rcases hq14_ with ⟨rfl, rfl, he7_⟩ | ⟨rfl, rfl, he8_⟩ | ⟨rfl, rfl, he9_⟩
 ·skip
  have S15_ := Same.trans (Same.refl w) S12_
  refine S_list (T_val (v := (Value.nilIface)) (x_assign rfl) ?_)
  refine wpList_nil ?_
  refine (X_then (hK5_ _ _ ?_))
  clear hK5_
  refine C_ret (X_blkR ?_)
  refine R_any (v := (Value.nilIface)) (run_results1 rfl rfl) ?_
  exact ⟨_, _, rfl, (.inl ⟨rfl, rfl, (by first | assumption | omega | exact rfl)⟩), S15_, H11_⟩
 ·skip
  replace H11_ : Holds w10_ (ro R :: F) := H11_
  have S16_ := Same.trans (Same.refl w) S12_
  refine S_list (T_val (v := (Value.iface 133 (Value.string (ByteArray.mk #[101, 116, 99, 100, 115, 101, 114, 118, 101, 114, 58, 32, 107, 101, 121, 32, 105, 115, 32, 110, 111, 116, 32, 112, 114, 111, 118, 105, 100, 101, 100])))) (x_assign rfl) ?_)
  refine wpList_nil ?_
  refine (X_then (hK5_ _ _ ?_))
  clear hK5_
  refine C_ret (X_blkR ?_)
  refine R_any (v := (Value.iface 133 (Value.string (ByteArray.mk #[101, 116, 99, 100, 115, 101, 114, 118, 101, 114, 58, 32, 107, 101, 121, 32, 105, 115, 32, 110, 111, 116, 32, 112, 114, 111, 118, 105, 100, 101, 100])))) (run_results1 rfl rfl) ?_
  exact ⟨_, _, rfl, (.inr (.inl ⟨rfl, rfl, (by first | assumption | omega | exact rfl)⟩)), S16_, H11_⟩
 ·skip
  have S17_ := Same.trans (Same.refl w) S12_
  refine S_list (T_val (v := (Value.iface 133 (Value.string (ByteArray.mk #[101, 116, 99, 100, 115, 101, 114, 118, 101, 114, 58, 32, 105, 110, 118, 97, 108, 105, 100, 32, 115, 111, 114, 116, 32, 111, 112, 116, 105, 111, 110])))) (x_assign rfl) ?_)
  refine wpList_nil ?_
  refine (X_then (hK5_ _ _ ?_))
  clear hK5_
  refine C_ret (X_blkR ?_)
  refine R_any (v := (Value.iface 133 (Value.string (ByteArray.mk #[101, 116, 99, 100, 115, 101, 114, 118, 101, 114, 58, 32, 105, 110, 118, 97, 108, 105, 100, 32, 115, 111, 114, 116, 32, 111, 112, 116, 105, 111, 110])))) (run_results1 rfl rfl) ?_
  exact ⟨_, _, rfl, (.inr (.inr (.inr ⟨rfl, rfl, (by first | assumption | omega | exact rfl)⟩))), S17_, H11_⟩

set_option maxHeartbeats 400000 in
theorem ckReqOp4 (R : HP) (b : Nat) (x : RT) (most : Int) (n__ : Nat) (b1 b2 : Nat) (hP : Pln x) (hmo : 0 ≤ most ∧ most ≤ 1048576) (hsx : x.sz < n__) (ih : ∀ (R : HP) (b : Nat) (x : RT) (most : Int) (hr : TxnAt R b x) (h4 : x.q.kind = 4) (hP : Pln x) (hmo : 0 ≤ most ∧ most ≤ 1048576) (hms : x.sz < n__), Tri Try.prog 71 #[(Value.pointer (some ⟨b, 0, none⟩)), (Value.int .i64 most)] R [] (fun v__ post__ => (v__ = (Value.nilIface) ∧ post__ = [] ∧ (refT x most = 0)) ∨ (v__ = (Value.iface 133 (Value.string (ByteArray.mk #[101, 116, 99, 100, 115, 101, 114, 118, 101, 114, 58, 32, 107, 101, 121, 32, 105, 115, 32, 110, 111, 116, 32, 112, 114, 111, 118, 105, 100, 101, 100]))) ∧ post__ = [] ∧ (refT x most = 1)) ∨ (v__ = (Value.iface 133 (Value.string (ByteArray.mk #[101, 116, 99, 100, 115, 101, 114, 118, 101, 114, 58, 32, 116, 111, 111, 32, 109, 97, 110, 121, 32, 111, 112, 101, 114, 97, 116, 105, 111, 110, 115, 32, 105, 110, 32, 116, 120, 110, 32, 114, 101, 113, 117, 101, 115, 116]))) ∧ post__ = [] ∧ (refT x most = 4)) ∨ (v__ = (Value.iface 133 (Value.string (ByteArray.mk #[101, 116, 99, 100, 115, 101, 114, 118, 101, 114, 58, 32, 105, 110, 118, 97, 108, 105, 100, 32, 115, 111, 114, 116, 32, 111, 112, 116, 105, 111, 110]))) ∧ post__ = [] ∧ (refT x most = 6)))) (h4 : x.q.kind = 4) (hc : RC R b 0 [.iface 161 (pv b1)]) (hc1 : RC R b1 0 [pv b2]) (hr : TxnAt R b2 x) :
    Tri Try.prog 88 #[(Value.pointer (some ⟨b, 0, none⟩)), (Value.int .i64 most)] R [] (fun v__ post__ => (v__ = (Value.nilIface) ∧ post__ = [] ∧ (refT x most = 0)) ∨ (v__ = (Value.iface 133 (Value.string (ByteArray.mk #[101, 116, 99, 100, 115, 101, 114, 118, 101, 114, 58, 32, 107, 101, 121, 32, 105, 115, 32, 110, 111, 116, 32, 112, 114, 111, 118, 105, 100, 101, 100]))) ∧ post__ = [] ∧ (refT x most = 1)) ∨ (v__ = (Value.iface 133 (Value.string (ByteArray.mk #[101, 116, 99, 100, 115, 101, 114, 118, 101, 114, 58, 32, 116, 111, 111, 32, 109, 97, 110, 121, 32, 111, 112, 101, 114, 97, 116, 105, 111, 110, 115, 32, 105, 110, 32, 116, 120, 110, 32, 114, 101, 113, 117, 101, 115, 116]))) ∧ post__ = [] ∧ (refT x most = 4)) ∨ (v__ = (Value.iface 133 (Value.string (ByteArray.mk #[101, 116, 99, 100, 115, 101, 114, 118, 101, 114, 58, 32, 105, 110, 118, 97, 108, 105, 100, 32, 115, 111, 114, 116, 32, 111, 112, 116, 105, 111, 110]))) ∧ post__ = [] ∧ (refT x most = 6))) := by
 refine Tri.into (n := 48) (al := [(Value.pointer (some ⟨b, 0, none⟩)), (Value.int .i64 most)]) Try.func88 rfl Try.ntmps88 rfl rfl fun w F H => ?_
 refine C_seq (fun K1_ hK1_ => ?_)
 refine C_reg ?_
 refine S_list (T_val (v := (Value.nilIface)) (x_assign rfl) ?_)
 refine wpList_nil ?_
 refine (X_then (hK1_ _ _ ?_))
 clear hK1_
 refine C_seq (fun K2_ hK2_ => ?_)
 refine C_reg ?_
 refine S_list (T_val (v := (Value.pointer (some ⟨b, 0, none⟩))) (x_move rfl) ?_)
 refine S_list (T_val (v := (Value.pointer (some ⟨b, 0, none⟩))) (by kernel_rfl) ?_)
 refine S_list (T_val (v := (Value.pointer (some ⟨b, 0, none⟩))) (by kernel_rfl) ?_)
 refine S_list (T_val (v := (Value.iface 161 (Value.pointer (some ⟨b1, 0, none⟩)))) (x_load1 rfl Try.underlying20 rfl (RC.cell hc (Holds.ro_at H 0 rfl) (j := 0) (u := (Value.iface 161 (Value.pointer (some ⟨b1, 0, none⟩)))) (rfl))) ?_)
 refine wpList_nil ?_
 refine (X_then (hK2_ _ _ ?_))
 clear hK2_
 refine C_block ?_
 refine C_seq (fun K3_ hK3_ => ?_)
 refine C_reg ?_
 refine S_list (T_val (v := (Value.tuple #[(Value.pointer none), (Value.bool false)])) (by kernel_rfl) ?_)
 refine S_list (T_val (v := (Value.bool false)) (by kernel_rfl) ?_)
 refine S_list (T_val (v := (Value.pointer none)) (by kernel_rfl) ?_)
 refine wpList_nil ?_
 refine (X_then (hK3_ _ _ ?_))
 clear hK3_
 refine C_condF rfl ?_
 refine C_seq (fun K4_ hK4_ => ?_)
 refine C_reg ?_
 refine S_list (T_val (v := (Value.tuple #[(Value.pointer none), (Value.bool false)])) (by kernel_rfl) ?_)
 refine S_list (T_val (v := (Value.bool false)) (by kernel_rfl) ?_)
 refine S_list (T_val (v := (Value.pointer none)) (by kernel_rfl) ?_)
 refine wpList_nil ?_
 refine (X_then (hK4_ _ _ ?_))
 clear hK4_
 refine C_condF rfl ?_
 refine C_seq (fun K5_ hK5_ => ?_)
 refine C_reg ?_
 refine S_list (T_val (v := (Value.tuple #[(Value.pointer none), (Value.bool false)])) (by kernel_rfl) ?_)
 refine S_list (T_val (v := (Value.bool false)) (by kernel_rfl) ?_)
 refine S_list (T_val (v := (Value.pointer none)) (by kernel_rfl) ?_)
 refine wpList_nil ?_
 refine (X_then (hK5_ _ _ ?_))
 clear hK5_
 refine C_condF rfl ?_
 refine C_seq (fun K6_ hK6_ => ?_)
 refine C_reg ?_
 refine S_list (T_val (v := (Value.tuple #[(Value.pointer (some ⟨b1, 0, none⟩)), (Value.bool true)])) (by kernel_rfl) ?_)
 refine S_list (T_val (v := (Value.bool true)) (by kernel_rfl) ?_)
 refine S_list (T_val (v := (Value.pointer (some ⟨b1, 0, none⟩))) (by kernel_rfl) ?_)
 refine wpList_nil ?_
 refine (X_then (hK6_ _ _ ?_))
 clear hK6_
 refine C_condT rfl ?_
 refine C_seq (fun K7_ hK7_ => ?_)
 refine C_reg ?_
 refine S_list (T_val (v := (Value.pointer (some ⟨b1, 0, none⟩))) (x_assign rfl) ?_)
 refine wpList_nil ?_
 refine (X_then (hK7_ _ _ ?_))
 clear hK7_
 refine C_seq (fun K8_ hK8_ => ?_)
 refine C_reg ?_
 refine S_list (T_val (v := (Value.pointer (some ⟨b1, 0, none⟩))) (x_move rfl) ?_)
 refine S_list (T_val (v := (Value.pointer (some ⟨b1, 0, none⟩))) (by kernel_rfl) ?_)
 refine S_list (T_val (v := (Value.pointer (some ⟨b1, 0, none⟩))) (by kernel_rfl) ?_)
 refine S_list (T_val (v := (Value.pointer (some ⟨b2, 0, none⟩))) (x_load1 rfl Try.underlying95 rfl (RC.cell hc1 (Holds.ro_at H 0 rfl) (j := 0) (u := (Value.pointer (some ⟨b2, 0, none⟩))) (rfl))) ?_)
 refine S_list (T_val (v := (Value.int .i64 most)) (x_move rfl) ?_)
 refine S_list (T_call (al := [(Value.pointer (some ⟨b2, 0, none⟩)), (Value.int .i64 most)]) (pre := []) rfl rfl cb71 (ih R b2 x most (hr) (h4) (hP) (by first | assumption | omega) (hsx)) H ?_)
 rintro v9_ p17_ w14_ hq18_ S16_ H15_
 rcases hq18_ with ⟨rfl, rfl, he10_⟩ | ⟨rfl, rfl, he11_⟩ | ⟨rfl, rfl, he12_⟩ | ⟨rfl, rfl, he13_⟩
 ·skip
  replace H15_ : Holds w14_ (ro R :: F) := H15_
  have S19_ := Same.trans (Same.refl w) S16_
  refine S_list (T_val (v := (Value.nilIface)) (x_assign rfl) ?_)
  refine wpList_nil ?_
  refine (X_then (hK8_ _ _ ?_))
  clear hK8_
  refine C_ret (X_blkR ?_)
  refine R_any (v := (Value.nilIface)) (run_results1 rfl rfl) ?_
  exact ⟨_, _, rfl, (.inl ⟨rfl, rfl, (by first | assumption | omega | exact rfl)⟩), S19_, H15_⟩
 ·skip
  have S20_ := Same.trans (Same.refl w) S16_
  refine S_list (T_val (v := (Value.iface 133 (Value.string (ByteArray.mk #[101, 116, 99, 100, 115, 101, 114, 118, 101, 114, 58, 32, 107, 101, 121, 32, 105, 115, 32, 110, 111, 116, 32, 112, 114, 111, 118, 105, 100, 101, 100])))) (x_assign rfl) ?_)
  refine wpList_nil ?_
  refine (X_then (hK8_ _ _ ?_))
  clear hK8_
  refine C_ret (X_blkR ?_)
  refine R_any (v := (Value.iface 133 (Value.string (ByteArray.mk #[101, 116, 99, 100, 115, 101, 114, 118, 101, 114, 58, 32, 107, 101, 121, 32, 105, 115, 32, 110, 111, 116, 32, 112, 114, 111, 118, 105, 100, 101, 100])))) (run_results1 rfl rfl) ?_
  exact ⟨_, _, rfl, (.inr (.inl ⟨rfl, rfl, (by first | assumption | omega | exact rfl)⟩)), S20_, H15_⟩
 ·skip
  have S21_ := Same.trans (Same.refl w) S16_
  refine S_list (T_val (v := (Value.iface 133 (Value.string (ByteArray.mk #[101, 116, 99, 100, 115, 101, 114, 118, 101, 114, 58, 32, 116, 111, 111, 32, 109, 97, 110, 121, 32, 111, 112, 101, 114, 97, 116, 105, 111, 110, 115, 32, 105, 110, 32, 116, 120, 110, 32, 114, 101, 113, 117, 101, 115, 116])))) (x_assign rfl) ?_)
  refine wpList_nil ?_
  refine (X_then (hK8_ _ _ ?_))
  clear hK8_
  refine C_ret (X_blkR ?_)
  refine R_any (v := (Value.iface 133 (Value.string (ByteArray.mk #[101, 116, 99, 100, 115, 101, 114, 118, 101, 114, 58, 32, 116, 111, 111, 32, 109, 97, 110, 121, 32, 111, 112, 101, 114, 97, 116, 105, 111, 110, 115, 32, 105, 110, 32, 116, 120, 110, 32, 114, 101, 113, 117, 101, 115, 116])))) (run_results1 rfl rfl) ?_
  exact ⟨_, _, rfl, (.inr (.inr (.inl ⟨rfl, rfl, (by first | assumption | omega | exact rfl)⟩))), S21_, H15_⟩
 ·skip
  replace H15_ : Holds w14_ (ro R :: F) := H15_
  have S22_ := Same.trans (Same.refl w) S16_
  refine S_list (T_val (v := (Value.iface 133 (Value.string (ByteArray.mk #[101, 116, 99, 100, 115, 101, 114, 118, 101, 114, 58, 32, 105, 110, 118, 97, 108, 105, 100, 32, 115, 111, 114, 116, 32, 111, 112, 116, 105, 111, 110])))) (x_assign rfl) ?_)
  refine wpList_nil ?_
  refine (X_then (hK8_ _ _ ?_))
  clear hK8_
  refine C_ret (X_blkR ?_)
  refine R_any (v := (Value.iface 133 (Value.string (ByteArray.mk #[101, 116, 99, 100, 115, 101, 114, 118, 101, 114, 58, 32, 105, 110, 118, 97, 108, 105, 100, 32, 115, 111, 114, 116, 32, 111, 112, 116, 105, 111, 110])))) (run_results1 rfl rfl) ?_
  exact ⟨_, _, rfl, (.inr (.inr (.inr ⟨rfl, rfl, (by first | assumption | omega | exact rfl)⟩))), S22_, H15_⟩

theorem ckReqOp (R : HP) (b : Nat) (x : RT) (most : Int) (n__ : Nat) (hP : Pln x) (hmo : 0 ≤ most ∧ most ≤ 1048576) (hsx : x.sz < n__) (ih : ∀ (R : HP) (b : Nat) (x : RT) (most : Int) (hr : TxnAt R b x) (h4 : x.q.kind = 4) (hP : Pln x) (hmo : 0 ≤ most ∧ most ≤ 1048576) (hms : x.sz < n__), Tri Try.prog 71 #[(Value.pointer (some ⟨b, 0, none⟩)), (Value.int .i64 most)] R [] (fun v__ post__ => (v__ = (Value.nilIface) ∧ post__ = [] ∧ (refT x most = 0)) ∨ (v__ = (Value.iface 133 (Value.string (ByteArray.mk #[101, 116, 99, 100, 115, 101, 114, 118, 101, 114, 58, 32, 107, 101, 121, 32, 105, 115, 32, 110, 111, 116, 32, 112, 114, 111, 118, 105, 100, 101, 100]))) ∧ post__ = [] ∧ (refT x most = 1)) ∨ (v__ = (Value.iface 133 (Value.string (ByteArray.mk #[101, 116, 99, 100, 115, 101, 114, 118, 101, 114, 58, 32, 116, 111, 111, 32, 109, 97, 110, 121, 32, 111, 112, 101, 114, 97, 116, 105, 111, 110, 115, 32, 105, 110, 32, 116, 120, 110, 32, 114, 101, 113, 117, 101, 115, 116]))) ∧ post__ = [] ∧ (refT x most = 4)) ∨ (v__ = (Value.iface 133 (Value.string (ByteArray.mk #[101, 116, 99, 100, 115, 101, 114, 118, 101, 114, 58, 32, 105, 110, 118, 97, 108, 105, 100, 32, 115, 111, 114, 116, 32, 111, 112, 116, 105, 111, 110]))) ∧ post__ = [] ∧ (refT x most = 6)))) (ho : OpAt R b x) : Tri Try.prog 88 #[(Value.pointer (some ⟨b, 0, none⟩)), (Value.int .i64 most)] R [] (fun v__ post__ => (v__ = (Value.nilIface) ∧ post__ = [] ∧ (refT x most = 0)) ∨ (v__ = (Value.iface 133 (Value.string (ByteArray.mk #[101, 116, 99, 100, 115, 101, 114, 118, 101, 114, 58, 32, 107, 101, 121, 32, 105, 115, 32, 110, 111, 116, 32, 112, 114, 111, 118, 105, 100, 101, 100]))) ∧ post__ = [] ∧ (refT x most = 1)) ∨ (v__ = (Value.iface 133 (Value.string (ByteArray.mk #[101, 116, 99, 100, 115, 101, 114, 118, 101, 114, 58, 32, 116, 111, 111, 32, 109, 97, 110, 121, 32, 111, 112, 101, 114, 97, 116, 105, 111, 110, 115, 32, 105, 110, 32, 116, 120, 110, 32, 114, 101, 113, 117, 101, 115, 116]))) ∧ post__ = [] ∧ (refT x most = 4)) ∨ (v__ = (Value.iface 133 (Value.string (ByteArray.mk #[101, 116, 99, 100, 115, 101, 114, 118, 101, 114, 58, 32, 105, 110, 118, 97, 108, 105, 100, 32, 115, 111, 114, 116, 32, 111, 112, 116, 105, 111, 110]))) ∧ post__ = [] ∧ (refT x most = 6))) := by
  cases ho with
  | rng _ b1 b2 _ h1 hc hc1 hr => exact ckReqOp1 R b x most n__ b1 b2 hP hmo hsx ih h1 hc hc1 hr
  | txn _ b1 b2 _ v1 v2 v3 C T E h4 hc hc1 a1 a2 a3 a4 a5 a6 a7 a8 a9 => exact ckReqOp4 R b x most n__ b1 b2 hP hmo hsx ih h4 hc hc1 ⟨v1, v2, v3, C, T, E, a1, a2, a3, a4, a5, ⟨a6, a7⟩, ⟨a8, a9⟩⟩
end Go.Proofs.Ytlnihndjepjagaa
