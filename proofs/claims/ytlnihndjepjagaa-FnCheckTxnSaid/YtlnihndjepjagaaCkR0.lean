/- What the server answers for a transaction. -/
import Derived.Test.YtlnihndjepjagaaCkQ0
set_option linter.unusedVariables false
set_option linter.unusedSimpArgs false
namespace Go.Proofs.Ytlnihndjepjagaa
open Go Go.RowKit Gw

set_option maxHeartbeats 400000 in
theorem ckZzTxn (R : HP) (b : Nat) (x : RT) (most : Int) (hr : TxnAt R b x) (h4 : x.q.kind = 4) (hP : Pln x) (hmo : 0 ≤ most ∧ most ≤ 1048576) :
    Tri Try.prog 47 #[(Value.pointer (some ⟨b, 0, none⟩)), (Value.int .i64 most)] R [] (fun v__ post__ => (v__ = (Value.nilIface) ∧ post__ = [] ∧ (refT x most = 0)) ∨ (v__ = (Value.iface 133 (Value.string (ByteArray.mk #[101, 116, 99, 100, 115, 101, 114, 118, 101, 114, 58, 32, 107, 101, 121, 32, 105, 115, 32, 110, 111, 116, 32, 112, 114, 111, 118, 105, 100, 101, 100]))) ∧ post__ = [] ∧ (refT x most = 1)) ∨ (v__ = (Value.iface 133 (Value.string (ByteArray.mk #[101, 116, 99, 100, 115, 101, 114, 118, 101, 114, 58, 32, 116, 111, 111, 32, 109, 97, 110, 121, 32, 111, 112, 101, 114, 97, 116, 105, 111, 110, 115, 32, 105, 110, 32, 116, 120, 110, 32, 114, 101, 113, 117, 101, 115, 116]))) ∧ post__ = [] ∧ (refT x most = 4)) ∨ (v__ = (Value.iface 133 (Value.string (ByteArray.mk #[101, 116, 99, 100, 115, 101, 114, 118, 101, 114, 58, 32, 105, 110, 118, 97, 108, 105, 100, 32, 115, 111, 114, 116, 32, 111, 112, 116, 105, 111, 110]))) ∧ post__ = [] ∧ (refT x most = 6))) := by
 have hr0 := hr
 obtain ⟨v1, v2, v3, C, T, E, hrc, hv1, hv2, hv3, hC, hT, hE⟩ := hr
 have hpb := hP.b h4
 refine Tri.into (n := 40) (al := [(Value.pointer (some ⟨b, 0, none⟩)), (Value.int .i64 most)]) Try.func47 rfl Try.ntmps47 rfl rfl fun w F H => ?_
 refine C_seq (fun K1_ hK1_ => ?_)
 refine C_reg ?_
 refine S_list (T_val (v := (Value.nilIface)) (x_assign rfl) ?_)
 refine wpList_nil ?_
 refine (X_then (hK1_ _ _ ?_))
 clear hK1_
 refine C_seq (fun K2_ hK2_ => ?_)
 refine C_seq (fun K3_ hK3_ => ?_)
 refine C_reg ?_
 refine S_list (T_val (v := (Value.pointer (some ⟨b, 0, none⟩))) (x_move rfl) ?_)
 refine S_list (T_val (v := (Value.int .i64 most)) (x_move rfl) ?_)
 refine S_list (T_call (al := [(Value.pointer (some ⟨b, 0, none⟩)), (Value.int .i64 most)]) (pre := []) rfl rfl cb71 (ckTxnReq R b x most (hr0) (h4) (hP) (hmo)) H ?_)
 rintro v4_ p12_ w9_ hq13_ S11_ H10_
 rcases hq13_ with ⟨rfl, rfl, he5_⟩ | ⟨rfl, rfl, he6_⟩ | ⟨rfl, rfl, he7_⟩ | ⟨rfl, rfl, he8_⟩
 ·skip
  have S14_ := Same.trans (Same.refl w) S11_
  refine S_list (T_val (v := (Value.nilIface)) (x_assign rfl) ?_)
  refine wpList_nil ?_
  refine (X_then (hK3_ _ _ ?_))
  clear hK3_
  refine C_seq (fun K18_ hK18_ => ?_)
  refine C_reg ?_
  refine S_list (T_val (v := (Value.nilIface)) (x_move rfl) ?_)
  refine S_list (T_val (v := (Value.bool false)) (by kernel_rfl) ?_)
  refine wpList_nil ?_
  refine (X_then (hK18_ _ _ ?_))
  clear hK18_
  refine C_condF rfl ?_
  refine C_skip (X_then (hK2_ _ _ ?_))
  clear hK2_
  refine C_seq (fun K19_ hK19_ => ?_)
  refine C_seq (fun K20_ hK20_ => ?_)
  refine C_reg ?_
  refine S_list (T_val (v := (Value.pointer (some ⟨b, 0, none⟩))) (x_move rfl) ?_)
  refine S_list (T_val (v := (Value.pointer (some ⟨b, 0, none⟩))) (by kernel_rfl) ?_)
  refine S_list (T_val (v := (Value.pointer (some ⟨b, 1, none⟩))) (by kernel_rfl) ?_)
  refine S_list (T_val (v := v2) (x_load1 rfl Try.underlying104 rfl (RC.cell hrc (Holds.ro_at H10_ 0 rfl) (j := 1) (u := v2) (rfl))) ?_)
  refine S_list (T_call (al := [v2]) (pre := []) rfl rfl cb72 (ckIntervals R v2 T x.tt hv2 (hT) (hP.tt h4) (by omega)) H10_ ?_)
  rintro v21_ p28_ w25_ ⟨mb22_, tb23_, sb24_, rfl, rfl⟩ S27_ H26_
  replace H26_ : Holds w25_ (ro R :: mp Value.string mb22_ [] :: cl tb23_ 188 [(Value.pointer (some ⟨sb24_, 0, none⟩)), (Value.int .i64 0), (Value.pointer (some ⟨sb24_, 0, none⟩))] :: cl sb24_ 185 [(Value.nilIface), (Value.nilIface), (Value.nilIface), (Value.nilIface), (Value.pointer none), (Value.pointer none), (Value.pointer none), (Value.int .i64 0)] :: F) := H26_
  have S29_ := Same.trans S14_ S27_
  refine S_list (T_val (v := (Value.tuple #[(Value.map (some mb22_)), (Value.iface 186 (Value.pointer (some ⟨tb23_, 0, none⟩))), (Value.nilIface)])) (x_move rfl) ?_)
  refine S_list (T_val (v := (Value.map (some mb22_))) (by kernel_rfl) ?_)
  refine S_list (T_val (v := (Value.iface 186 (Value.pointer (some ⟨tb23_, 0, none⟩)))) (by kernel_rfl) ?_)
  refine S_list (T_val (v := (Value.nilIface)) (by kernel_rfl) ?_)
  refine S_list (T_val (v := (Value.map (some mb22_))) (x_assign rfl) ?_)
  refine S_list (T_val (v := (Value.iface 186 (Value.pointer (some ⟨tb23_, 0, none⟩)))) (x_assign rfl) ?_)
  refine S_list (T_val (v := (Value.nilIface)) (x_assign rfl) ?_)
  refine wpList_nil ?_
  refine (X_then (hK20_ _ _ ?_))
  clear hK20_
  refine C_seq (fun K30_ hK30_ => ?_)
  refine C_reg ?_
  refine S_list (T_val (v := (Value.nilIface)) (x_move rfl) ?_)
  refine S_list (T_val (v := (Value.bool false)) (by kernel_rfl) ?_)
  refine wpList_nil ?_
  refine (X_then (hK30_ _ _ ?_))
  clear hK30_
  refine C_condF rfl ?_
  refine C_skip (X_then (hK19_ _ _ ?_))
  clear hK19_
  refine C_seq (fun K31_ hK31_ => ?_)
  refine C_reg ?_
  refine S_list (T_val (v := (Value.pointer (some ⟨b, 0, none⟩))) (x_move rfl) ?_)
  refine S_list (T_val (v := (Value.pointer (some ⟨b, 0, none⟩))) (by kernel_rfl) ?_)
  refine S_list (T_val (v := (Value.pointer (some ⟨b, 2, none⟩))) (by kernel_rfl) ?_)
  refine S_list (T_val (v := v3) (x_load1 rfl Try.underlying104 rfl (RC.cell hrc (Holds.ro_at H26_ 0 rfl) (j := 2) (u := v3) (rfl))) ?_)
  refine S_list (T_call (al := [v3]) (pre := []) rfl rfl cb72 (ckIntervals R v3 E x.ee hv3 (hE) (hP.ee h4) (by omega)) H26_ ?_)
  rintro v32_ p39_ w36_ ⟨mb33_, tb34_, sb35_, rfl, rfl⟩ S38_ H37_
  have S40_ := Same.trans S29_ S38_
  refine S_list (T_val (v := (Value.tuple #[(Value.map (some mb33_)), (Value.iface 186 (Value.pointer (some ⟨tb34_, 0, none⟩))), (Value.nilIface)])) (x_move rfl) ?_)
  refine S_list (T_val (v := (Value.map (some mb33_))) (by kernel_rfl) ?_)
  refine S_list (T_val (v := (Value.iface 186 (Value.pointer (some ⟨tb34_, 0, none⟩)))) (by kernel_rfl) ?_)
  refine S_list (T_val (v := (Value.nilIface)) (by kernel_rfl) ?_)
  refine S_list (T_val (v := (Value.map (some mb33_))) (x_assign rfl) ?_)
  refine S_list (T_val (v := (Value.iface 186 (Value.pointer (some ⟨tb34_, 0, none⟩)))) (x_assign rfl) ?_)
  refine S_list (T_val (v := (Value.nilIface)) (x_assign rfl) ?_)
  refine wpList_nil ?_
  refine (X_then (hK31_ _ _ ?_))
  clear hK31_
  refine C_seq (fun K41_ hK41_ => ?_)
  refine C_reg ?_
  refine S_list (T_val (v := (Value.nilIface)) (x_move rfl) ?_)
  refine S_list (T_val (v := (Value.nilIface)) (x_assign rfl) ?_)
  refine wpList_nil ?_
  refine (X_then (hK41_ _ _ ?_))
  clear hK41_
  refine C_ret ?_
  refine R_any (v := (Value.nilIface)) (run_results1 rfl rfl) ?_
  have H42_ : Holds w36_ (ro R :: F) := (Holds.pkF H37_ [0] 6 :)
  exact ⟨_, _, rfl, (.inl ⟨rfl, rfl, (by first | assumption | omega | exact rfl)⟩), S40_, H42_⟩
 ·skip
  replace H10_ : Holds w9_ (ro R :: F) := H10_
  have S15_ := Same.trans (Same.refl w) S11_
  refine S_list (T_val (v := (Value.iface 133 (Value.string (ByteArray.mk #[101, 116, 99, 100, 115, 101, 114, 118, 101, 114, 58, 32, 107, 101, 121, 32, 105, 115, 32, 110, 111, 116, 32, 112, 114, 111, 118, 105, 100, 101, 100])))) (x_assign rfl) ?_)
  refine wpList_nil ?_
  refine (X_then (hK3_ _ _ ?_))
  clear hK3_
  refine C_seq (fun K43_ hK43_ => ?_)
  refine C_reg ?_
  refine S_list (T_val (v := (Value.iface 133 (Value.string (ByteArray.mk #[101, 116, 99, 100, 115, 101, 114, 118, 101, 114, 58, 32, 107, 101, 121, 32, 105, 115, 32, 110, 111, 116, 32, 112, 114, 111, 118, 105, 100, 101, 100])))) (x_move rfl) ?_)
  refine S_list (T_val (v := (Value.bool true)) (by kernel_rfl) ?_)
  refine wpList_nil ?_
  refine (X_then (hK43_ _ _ ?_))
  clear hK43_
  refine C_condT rfl ?_
  refine C_seq (fun K44_ hK44_ => ?_)
  refine C_reg ?_
  refine S_list (T_val (v := (Value.iface 133 (Value.string (ByteArray.mk #[101, 116, 99, 100, 115, 101, 114, 118, 101, 114, 58, 32, 107, 101, 121, 32, 105, 115, 32, 110, 111, 116, 32, 112, 114, 111, 118, 105, 100, 101, 100])))) (x_move rfl) ?_)
  refine S_list (T_val (v := (Value.iface 133 (Value.string (ByteArray.mk #[101, 116, 99, 100, 115, 101, 114, 118, 101, 114, 58, 32, 107, 101, 121, 32, 105, 115, 32, 110, 111, 116, 32, 112, 114, 111, 118, 105, 100, 101, 100])))) (x_assign rfl) ?_)
  refine wpList_nil ?_
  refine (X_then (hK44_ _ _ ?_))
  clear hK44_
  refine C_ret (X_thenR ?_)
  refine R_any (v := (Value.iface 133 (Value.string (ByteArray.mk #[101, 116, 99, 100, 115, 101, 114, 118, 101, 114, 58, 32, 107, 101, 121, 32, 105, 115, 32, 110, 111, 116, 32, 112, 114, 111, 118, 105, 100, 101, 100])))) (run_results1 rfl rfl) ?_
  exact ⟨_, _, rfl, (.inr (.inl ⟨rfl, rfl, (by first | assumption | omega | exact rfl)⟩)), S15_, H10_⟩
 ·skip
  have S16_ := Same.trans (Same.refl w) S11_
  refine S_list (T_val (v := (Value.iface 133 (Value.string (ByteArray.mk #[101, 116, 99, 100, 115, 101, 114, 118, 101, 114, 58, 32, 116, 111, 111, 32, 109, 97, 110, 121, 32, 111, 112, 101, 114, 97, 116, 105, 111, 110, 115, 32, 105, 110, 32, 116, 120, 110, 32, 114, 101, 113, 117, 101, 115, 116])))) (x_assign rfl) ?_)
  refine wpList_nil ?_
  refine (X_then (hK3_ _ _ ?_))
  clear hK3_
  refine C_seq (fun K45_ hK45_ => ?_)
  refine C_reg ?_
  refine S_list (T_val (v := (Value.iface 133 (Value.string (ByteArray.mk #[101, 116, 99, 100, 115, 101, 114, 118, 101, 114, 58, 32, 116, 111, 111, 32, 109, 97, 110, 121, 32, 111, 112, 101, 114, 97, 116, 105, 111, 110, 115, 32, 105, 110, 32, 116, 120, 110, 32, 114, 101, 113, 117, 101, 115, 116])))) (x_move rfl) ?_)
  refine S_list (T_val (v := (Value.bool true)) (by kernel_rfl) ?_)
  refine wpList_nil ?_
  refine (X_then (hK45_ _ _ ?_))
  clear hK45_
  refine C_condT rfl ?_
  refine C_seq (fun K46_ hK46_ => ?_)
  refine C_reg ?_
  refine S_list (T_val (v := (Value.iface 133 (Value.string (ByteArray.mk #[101, 116, 99, 100, 115, 101, 114, 118, 101, 114, 58, 32, 116, 111, 111, 32, 109, 97, 110, 121, 32, 111, 112, 101, 114, 97, 116, 105, 111, 110, 115, 32, 105, 110, 32, 116, 120, 110, 32, 114, 101, 113, 117, 101, 115, 116])))) (x_move rfl) ?_)
  refine S_list (T_val (v := (Value.iface 133 (Value.string (ByteArray.mk #[101, 116, 99, 100, 115, 101, 114, 118, 101, 114, 58, 32, 116, 111, 111, 32, 109, 97, 110, 121, 32, 111, 112, 101, 114, 97, 116, 105, 111, 110, 115, 32, 105, 110, 32, 116, 120, 110, 32, 114, 101, 113, 117, 101, 115, 116])))) (x_assign rfl) ?_)
  refine wpList_nil ?_
  refine (X_then (hK46_ _ _ ?_))
  clear hK46_
  refine C_ret (X_thenR ?_)
  refine R_any (v := (Value.iface 133 (Value.string (ByteArray.mk #[101, 116, 99, 100, 115, 101, 114, 118, 101, 114, 58, 32, 116, 111, 111, 32, 109, 97, 110, 121, 32, 111, 112, 101, 114, 97, 116, 105, 111, 110, 115, 32, 105, 110, 32, 116, 120, 110, 32, 114, 101, 113, 117, 101, 115, 116])))) (run_results1 rfl rfl) ?_
  exact ⟨_, _, rfl, (.inr (.inr (.inl ⟨rfl, rfl, (by first | assumption | omega | exact rfl)⟩))), S16_, H10_⟩
 ·skip
  have S17_ := Same.trans (Same.refl w) S11_
  refine S_list (T_val (v := (Value.iface 133 (Value.string (ByteArray.mk #[101, 116, 99, 100, 115, 101, 114, 118, 101, 114, 58, 32, 105, 110, 118, 97, 108, 105, 100, 32, 115, 111, 114, 116, 32, 111, 112, 116, 105, 111, 110])))) (x_assign rfl) ?_)
  refine wpList_nil ?_
  refine (X_then (hK3_ _ _ ?_))
  clear hK3_
  refine C_seq (fun K47_ hK47_ => ?_)
  refine C_reg ?_
  refine S_list (T_val (v := (Value.iface 133 (Value.string (ByteArray.mk #[101, 116, 99, 100, 115, 101, 114, 118, 101, 114, 58, 32, 105, 110, 118, 97, 108, 105, 100, 32, 115, 111, 114, 116, 32, 111, 112, 116, 105, 111, 110])))) (x_move rfl) ?_)
  refine S_list (T_val (v := (Value.bool true)) (by kernel_rfl) ?_)
  refine wpList_nil ?_
  refine (X_then (hK47_ _ _ ?_))
  clear hK47_
  refine C_condT rfl ?_
  refine C_seq (fun K48_ hK48_ => ?_)
  refine C_reg ?_
  refine S_list (T_val (v := (Value.iface 133 (Value.string (ByteArray.mk #[101, 116, 99, 100, 115, 101, 114, 118, 101, 114, 58, 32, 105, 110, 118, 97, 108, 105, 100, 32, 115, 111, 114, 116, 32, 111, 112, 116, 105, 111, 110])))) (x_move rfl) ?_)
  refine S_list (T_val (v := (Value.iface 133 (Value.string (ByteArray.mk #[101, 116, 99, 100, 115, 101, 114, 118, 101, 114, 58, 32, 105, 110, 118, 97, 108, 105, 100, 32, 115, 111, 114, 116, 32, 111, 112, 116, 105, 111, 110])))) (x_assign rfl) ?_)
  refine wpList_nil ?_
  refine (X_then (hK48_ _ _ ?_))
  clear hK48_
  refine C_ret (X_thenR ?_)
  refine R_any (v := (Value.iface 133 (Value.string (ByteArray.mk #[101, 116, 99, 100, 115, 101, 114, 118, 101, 114, 58, 32, 105, 110, 118, 97, 108, 105, 100, 32, 115, 111, 114, 116, 32, 111, 112, 116, 105, 111, 110])))) (run_results1 rfl rfl) ?_
  exact ⟨_, _, rfl, (.inr (.inr (.inr ⟨rfl, rfl, (by first | assumption | omega | exact rfl)⟩))), S17_, H10_⟩

set_option maxHeartbeats 400000 in
theorem ckCheck4 (R : HP) (x : RT) (most : Int) (hR : RAt R x) (hP : Pln x) (hmo : 0 ≤ most ∧ most ≤ 1048576) (h4 : x.q.kind = 4) :
    Tri Try.prog 15 #[(Value.agg #[(Value.int .i64 x.q.kind), (Value.string x.q.key), (Value.string x.q.end_), (Value.string x.q.value), (Value.int .i64 x.q.lease), (Value.int .i64 x.q.rev), (Value.int .i64 x.q.limit), (Value.int .i64 x.q.sortOrder), (Value.int .i64 x.q.sortTarget), (Value.int .i64 x.q.minMod), (Value.int .i64 x.q.maxMod), (Value.int .i64 x.q.minCreate), (Value.int .i64 x.q.maxCreate), (Value.bool x.q.keysOnly), (Value.bool x.q.countOnly), (Value.bool x.q.prev), (Value.bool x.q.ignoreValue), (Value.bool x.q.ignoreLease), x.q.cmps, x.q.then_, x.q.else_]), (Value.int .i64 most)] R [] (fun v__ post__ => v__ = (Value.int .i64 (refT x most)) ∧ post__ = []) := by
 refine Tri.into (n := 32) (al := [(Value.agg #[(Value.int .i64 x.q.kind), (Value.string x.q.key), (Value.string x.q.end_), (Value.string x.q.value), (Value.int .i64 x.q.lease), (Value.int .i64 x.q.rev), (Value.int .i64 x.q.limit), (Value.int .i64 x.q.sortOrder), (Value.int .i64 x.q.sortTarget), (Value.int .i64 x.q.minMod), (Value.int .i64 x.q.maxMod), (Value.int .i64 x.q.minCreate), (Value.int .i64 x.q.maxCreate), (Value.bool x.q.keysOnly), (Value.bool x.q.countOnly), (Value.bool x.q.prev), (Value.bool x.q.ignoreValue), (Value.bool x.q.ignoreLease), x.q.cmps, x.q.then_, x.q.else_]), (Value.int .i64 most)]) Try.func15 rfl Try.ntmps15 rfl rfl fun w F H => ?_
 refine C_seq (fun K1_ hK1_ => ?_)
 refine C_reg ?_
 refine S_list (T_box (v := (Value.agg #[(Value.int .i64 x.q.kind), (Value.string x.q.key), (Value.string x.q.end_), (Value.string x.q.value), (Value.int .i64 x.q.lease), (Value.int .i64 x.q.rev), (Value.int .i64 x.q.limit), (Value.int .i64 x.q.sortOrder), (Value.int .i64 x.q.sortTarget), (Value.int .i64 x.q.minMod), (Value.int .i64 x.q.maxMod), (Value.int .i64 x.q.minCreate), (Value.int .i64 x.q.maxCreate), (Value.bool x.q.keysOnly), (Value.bool x.q.countOnly), (Value.bool x.q.prev), (Value.bool x.q.ignoreValue), (Value.bool x.q.ignoreLease), x.q.cmps, x.q.then_, x.q.else_])) rfl H ?_)
 intro b2_ w3_ S5_ H4_
 have S6_ := Same.trans (Same.refl w) S5_
 refine S_list (T_val (v := (Value.int .i64 0)) (x_assign rfl) ?_)
 refine wpList_nil ?_
 refine (X_then (hK1_ _ _ ?_))
 clear hK1_
 refine C_seq (fun K7_ hK7_ => ?_)
 refine C_seq (fun K8_ hK8_ => ?_)
 refine C_reg ?_
 refine S_list (T_val (v := (Value.pointer (some ⟨b2_, 0, none⟩))) (by kernel_rfl) ?_)
 refine S_list (T_val (v := (Value.int .i64 x.q.kind)) (x_load1 rfl Try.underlying3 rfl ((Holds.rd H4_ 0 rfl) 0 (Value.int .i64 x.q.kind) rfl)) ?_)
 refine wpList_nil ?_
 refine (X_then (hK8_ _ _ ?_))
 clear hK8_
 refine C_block ?_
 refine C_seq (fun K9_ hK9_ => ?_)
 refine C_reg ?_
 refine S_list (T_val (v := (Value.bool (decide (x.q.kind = 1)))) (x_bin rfl rfl rfl) ?_)
 refine S_list (T_val (v := (Value.bool (decide (x.q.kind = 1)))) (x_assign rfl) ?_)
 refine wpList_nil ?_
 refine (X_then (hK9_ _ _ ?_))
 clear hK9_
 refine C_cond (b := decide (x.q.kind = 1)) rfl (fun c10_t => ?_) (fun c10_f => ?_)
 ·have c10_tp : x.q.kind = 1 := of_decide_eq_true c10_t
  omega
 ·have c10_fp : ¬ (x.q.kind = 1) := of_decide_eq_false c10_f
  refine C_seq (fun K11_ hK11_ => ?_)
  refine C_reg ?_
  refine S_list (T_val (v := (Value.bool (decide (x.q.kind = 2)))) (x_bin rfl rfl rfl) ?_)
  refine S_list (T_val (v := (Value.bool (decide (x.q.kind = 2)))) (x_assign rfl) ?_)
  refine wpList_nil ?_
  refine (X_then (hK11_ _ _ ?_))
  clear hK11_
  refine C_cond (b := decide (x.q.kind = 2)) rfl (fun c12_t => ?_) (fun c12_f => ?_)
  ·have c12_tp : x.q.kind = 2 := of_decide_eq_true c12_t
   omega
  ·have c12_fp : ¬ (x.q.kind = 2) := of_decide_eq_false c12_f
   refine C_seq (fun K13_ hK13_ => ?_)
   refine C_reg ?_
   refine S_list (T_val (v := (Value.bool (decide (x.q.kind = 3)))) (x_bin rfl rfl rfl) ?_)
   refine S_list (T_val (v := (Value.bool (decide (x.q.kind = 3)))) (x_assign rfl) ?_)
   refine wpList_nil ?_
   refine (X_then (hK13_ _ _ ?_))
   clear hK13_
   refine C_cond (b := decide (x.q.kind = 3)) rfl (fun c14_t => ?_) (fun c14_f => ?_)
   ·have c14_tp : x.q.kind = 3 := of_decide_eq_true c14_t
    omega
   ·have c14_fp : ¬ (x.q.kind = 3) := of_decide_eq_false c14_f
    refine C_seq (fun K15_ hK15_ => ?_)
    refine C_reg ?_
    refine S_list (T_val (v := (Value.bool (decide (x.q.kind = 4)))) (x_bin rfl rfl rfl) ?_)
    refine S_list (T_val (v := (Value.bool (decide (x.q.kind = 4)))) (x_assign rfl) ?_)
    refine wpList_nil ?_
    refine (X_then (hK15_ _ _ ?_))
    clear hK15_
    refine C_cond (b := decide (x.q.kind = 4)) rfl (fun c16_t => ?_) (fun c16_f => ?_)
    ·have c16_tp : x.q.kind = 4 := of_decide_eq_true c16_t
     refine C_seq (fun K17_ hK17_ => ?_)
     refine C_reg ?_
     refine S_list (T_val (v := (Value.agg #[(Value.int .i64 x.q.kind), (Value.string x.q.key), (Value.string x.q.end_), (Value.string x.q.value), (Value.int .i64 x.q.lease), (Value.int .i64 x.q.rev), (Value.int .i64 x.q.limit), (Value.int .i64 x.q.sortOrder), (Value.int .i64 x.q.sortTarget), (Value.int .i64 x.q.minMod), (Value.int .i64 x.q.maxMod), (Value.int .i64 x.q.minCreate), (Value.int .i64 x.q.maxCreate), (Value.bool x.q.keysOnly), (Value.bool x.q.countOnly), (Value.bool x.q.prev), (Value.bool x.q.ignoreValue), (Value.bool x.q.ignoreLease), x.q.cmps, x.q.then_, x.q.else_])) (x_loadN (vs := [(Value.int .i64 x.q.kind), (Value.string x.q.key), (Value.string x.q.end_), (Value.string x.q.value), (Value.int .i64 x.q.lease), (Value.int .i64 x.q.rev), (Value.int .i64 x.q.limit), (Value.int .i64 x.q.sortOrder), (Value.int .i64 x.q.sortTarget), (Value.int .i64 x.q.minMod), (Value.int .i64 x.q.maxMod), (Value.int .i64 x.q.minCreate), (Value.int .i64 x.q.maxCreate), (Value.bool x.q.keysOnly), (Value.bool x.q.countOnly), (Value.bool x.q.prev), (Value.bool x.q.ignoreValue), (Value.bool x.q.ignoreLease), x.q.cmps, x.q.then_, x.q.else_]) rfl Try.underlying25 rfl z25 rfl (Rd.cells (Holds.rd H4_ 0 rfl) 0 rfl)) ?_)
     have H23_ := ((Holds.bring H4_ 1 rfl) :)
     replace H23_ : Holds w3_ (ro R :: cl b2_ 25 [(Value.int .i64 x.q.kind), (Value.string x.q.key), (Value.string x.q.end_), (Value.string x.q.value), (Value.int .i64 x.q.lease), (Value.int .i64 x.q.rev), (Value.int .i64 x.q.limit), (Value.int .i64 x.q.sortOrder), (Value.int .i64 x.q.sortTarget), (Value.int .i64 x.q.minMod), (Value.int .i64 x.q.maxMod), (Value.int .i64 x.q.minCreate), (Value.int .i64 x.q.maxCreate), (Value.bool x.q.keysOnly), (Value.bool x.q.countOnly), (Value.bool x.q.prev), (Value.bool x.q.ignoreValue), (Value.bool x.q.ignoreLease), x.q.cmps, x.q.then_, x.q.else_] :: F) := H23_
     refine S_list (T_callG (al := [(Value.agg #[(Value.int .i64 x.q.kind), (Value.string x.q.key), (Value.string x.q.end_), (Value.string x.q.value), (Value.int .i64 x.q.lease), (Value.int .i64 x.q.rev), (Value.int .i64 x.q.limit), (Value.int .i64 x.q.sortOrder), (Value.int .i64 x.q.sortTarget), (Value.int .i64 x.q.minMod), (Value.int .i64 x.q.maxMod), (Value.int .i64 x.q.minCreate), (Value.int .i64 x.q.maxCreate), (Value.bool x.q.keysOnly), (Value.bool x.q.countOnly), (Value.bool x.q.prev), (Value.bool x.q.ignoreValue), (Value.bool x.q.ignoreLease), x.q.cmps, x.q.then_, x.q.else_])]) (pre := []) rfl rfl cb48 (ckTxnIn R x x.sz (hR) (hP) (h4) (Nat.le_refl _) (fun R v L hL hR hl hP hms => ckOpsIn R v L hL hR hl hP)) H23_ ?_)
     rintro R19_ v20_ p27_ w24_ hs18_ ⟨b21_, rfl, rfl, he22_⟩ S26_ H25_
     have S28_ := Same.trans S6_ S26_
     refine S_list (T_val (v := (Value.int .i64 most)) (x_move rfl) ?_)
     refine S_list (T_call (al := [(Value.pointer (some ⟨b21_, 0, none⟩)), (Value.int .i64 most)]) (pre := []) rfl rfl cb47 (ckZzTxn R19_ b21_ x most (he22_) (h4) (hP) (hmo)) H25_ ?_)
     rintro v29_ p37_ w34_ hq38_ S36_ H35_
     rcases hq38_ with ⟨rfl, rfl, he30_⟩ | ⟨rfl, rfl, he31_⟩ | ⟨rfl, rfl, he32_⟩ | ⟨rfl, rfl, he33_⟩
     ·skip
      have S39_ := Same.trans S28_ S36_
      refine S_list (T_callW (al := [(Value.nilIface)]) rfl rfl cb40 (Calls.into (n := 27) (al := [(Value.nilIface)]) Try.func40 rfl Try.ntmps40 rfl rfl ?_))
      refine C_seq (fun K43_ hK43_ => ?_)
      refine C_reg ?_
      refine S_list (T_val (v := (Value.int .i64 0)) (x_assign rfl) ?_)
      refine wpList_nil ?_
      refine (X_then (hK43_ _ _ ?_))
      clear hK43_
      refine C_seq (fun K44_ hK44_ => ?_)
      refine C_seq (fun K45_ hK45_ => ?_)
      refine C_reg ?_
      refine S_list (T_val (v := (Value.nilIface)) (x_move rfl) ?_)
      refine wpList_nil ?_
      refine (X_then (hK45_ _ _ ?_))
      clear hK45_
      refine C_block ?_
      refine C_seq (fun K46_ hK46_ => ?_)
      refine C_reg ?_
      refine S_list (T_val (v := (Value.bool true)) (by kernel_rfl) ?_)
      refine S_list (T_val (v := (Value.bool true)) (x_assign rfl) ?_)
      refine wpList_nil ?_
      refine (X_then (hK46_ _ _ ?_))
      clear hK46_
      refine C_condT rfl ?_
      refine C_seq (fun K47_ hK47_ => ?_)
      refine C_reg ?_
      refine S_list (T_val (v := (Value.int .i64 0)) (x_assign rfl) ?_)
      refine wpList_nil ?_
      refine (X_then (hK47_ _ _ ?_))
      clear hK47_
      refine C_ret (X_blkR (X_thenR ?_))
      refine R_any (v := (Value.int .i64 0)) (run_results1 rfl rfl) ⟨_, rfl, ?_⟩
      refine S_list (T_val (v := (Value.int .i64 0)) (x_assign rfl) ?_)
      refine wpList_nil ?_
      refine (X_then (hK17_ _ _ ?_))
      clear hK17_
      refine C_ret (X_blkR (X_thenR ?_))
      refine R_any (v := (Value.int .i64 0)) (run_results1 rfl rfl) ?_
      have H48_ : Holds w34_ (ro R :: cl b2_ 25 [(Value.int .i64 x.q.kind), (Value.string x.q.key), (Value.string x.q.end_), (Value.string x.q.value), (Value.int .i64 x.q.lease), (Value.int .i64 x.q.rev), (Value.int .i64 x.q.limit), (Value.int .i64 x.q.sortOrder), (Value.int .i64 x.q.sortTarget), (Value.int .i64 x.q.minMod), (Value.int .i64 x.q.maxMod), (Value.int .i64 x.q.minCreate), (Value.int .i64 x.q.maxCreate), (Value.bool x.q.keysOnly), (Value.bool x.q.countOnly), (Value.bool x.q.prev), (Value.bool x.q.ignoreValue), (Value.bool x.q.ignoreLease), x.q.cmps, x.q.then_, x.q.else_] :: F) := Holds.ro_less H35_ hs18_
      have H49_ : Holds w34_ (ro R :: F) := (Holds.pkF H48_ [0] 1 :)
      exact ⟨_, _, rfl, ⟨(congrArg (Value.int .i64) (he30_.symm : 0 = refT x most)), rfl⟩, S39_, H49_⟩
     ·skip
      replace H35_ : Holds w34_ (ro R19_ :: cl b2_ 25 [(Value.int .i64 x.q.kind), (Value.string x.q.key), (Value.string x.q.end_), (Value.string x.q.value), (Value.int .i64 x.q.lease), (Value.int .i64 x.q.rev), (Value.int .i64 x.q.limit), (Value.int .i64 x.q.sortOrder), (Value.int .i64 x.q.sortTarget), (Value.int .i64 x.q.minMod), (Value.int .i64 x.q.maxMod), (Value.int .i64 x.q.minCreate), (Value.int .i64 x.q.maxCreate), (Value.bool x.q.keysOnly), (Value.bool x.q.countOnly), (Value.bool x.q.prev), (Value.bool x.q.ignoreValue), (Value.bool x.q.ignoreLease), x.q.cmps, x.q.then_, x.q.else_] :: F) := H35_
      have S40_ := Same.trans S28_ S36_
      refine S_list (T_callW (al := [(Value.iface 133 (Value.string (ByteArray.mk #[101, 116, 99, 100, 115, 101, 114, 118, 101, 114, 58, 32, 107, 101, 121, 32, 105, 115, 32, 110, 111, 116, 32, 112, 114, 111, 118, 105, 100, 101, 100])))]) rfl rfl cb40 (Calls.into (n := 27) (al := [(Value.iface 133 (Value.string (ByteArray.mk #[101, 116, 99, 100, 115, 101, 114, 118, 101, 114, 58, 32, 107, 101, 121, 32, 105, 115, 32, 110, 111, 116, 32, 112, 114, 111, 118, 105, 100, 101, 100])))]) Try.func40 rfl Try.ntmps40 rfl rfl ?_))
      refine C_seq (fun K50_ hK50_ => ?_)
      refine C_reg ?_
      refine S_list (T_val (v := (Value.int .i64 0)) (x_assign rfl) ?_)
      refine wpList_nil ?_
      refine (X_then (hK50_ _ _ ?_))
      clear hK50_
      refine C_seq (fun K51_ hK51_ => ?_)
      refine C_seq (fun K52_ hK52_ => ?_)
      refine C_reg ?_
      refine S_list (T_val (v := (Value.iface 133 (Value.string (ByteArray.mk #[101, 116, 99, 100, 115, 101, 114, 118, 101, 114, 58, 32, 107, 101, 121, 32, 105, 115, 32, 110, 111, 116, 32, 112, 114, 111, 118, 105, 100, 101, 100])))) (x_move rfl) ?_)
      refine wpList_nil ?_
      refine (X_then (hK52_ _ _ ?_))
      clear hK52_
      refine C_block ?_
      refine C_seq (fun K53_ hK53_ => ?_)
      refine C_reg ?_
      refine S_list (T_val (v := (Value.bool false)) (by kernel_rfl) ?_)
      refine S_list (T_val (v := (Value.bool false)) (x_assign rfl) ?_)
      refine wpList_nil ?_
      refine (X_then (hK53_ _ _ ?_))
      clear hK53_
      refine C_condF rfl ?_
      refine C_seq (fun K54_ hK54_ => ?_)
      refine C_reg ?_
      refine S_list (T_val (v := (Value.iface 133 (Value.string (ByteArray.mk #[101, 116, 99, 100, 115, 101, 114, 118, 101, 114, 58, 32, 107, 101, 121, 32, 105, 115, 32, 110, 111, 116, 32, 112, 114, 111, 118, 105, 100, 101, 100])))) (by kernel_rfl) ?_)
      refine S_list (T_val (v := (Value.bool true)) (x_cast (x_eqK rfl rfl Try.underlying84 (by kernel_rfl) Try.underlying133) (congrArg Value.bool (by simp only [toList_data]; decide))) ?_)
      refine S_list (T_val (v := (Value.bool true)) (x_assign rfl) ?_)
      refine wpList_nil ?_
      refine (X_then (hK54_ _ _ ?_))
      clear hK54_
      refine C_condT rfl ?_
      refine C_seq (fun K55_ hK55_ => ?_)
      refine C_reg ?_
      refine S_list (T_val (v := (Value.int .i64 1)) (x_assign rfl) ?_)
      refine wpList_nil ?_
      refine (X_then (hK55_ _ _ ?_))
      clear hK55_
      refine C_ret (X_blkR (X_thenR ?_))
      refine R_any (v := (Value.int .i64 1)) (run_results1 rfl rfl) ⟨_, rfl, ?_⟩
      refine S_list (T_val (v := (Value.int .i64 1)) (x_assign rfl) ?_)
      refine wpList_nil ?_
      refine (X_then (hK17_ _ _ ?_))
      clear hK17_
      refine C_ret (X_blkR (X_thenR ?_))
      refine R_any (v := (Value.int .i64 1)) (run_results1 rfl rfl) ?_
      have H56_ : Holds w34_ (ro R :: cl b2_ 25 [(Value.int .i64 x.q.kind), (Value.string x.q.key), (Value.string x.q.end_), (Value.string x.q.value), (Value.int .i64 x.q.lease), (Value.int .i64 x.q.rev), (Value.int .i64 x.q.limit), (Value.int .i64 x.q.sortOrder), (Value.int .i64 x.q.sortTarget), (Value.int .i64 x.q.minMod), (Value.int .i64 x.q.maxMod), (Value.int .i64 x.q.minCreate), (Value.int .i64 x.q.maxCreate), (Value.bool x.q.keysOnly), (Value.bool x.q.countOnly), (Value.bool x.q.prev), (Value.bool x.q.ignoreValue), (Value.bool x.q.ignoreLease), x.q.cmps, x.q.then_, x.q.else_] :: F) := Holds.ro_less H35_ hs18_
      have H57_ : Holds w34_ (ro R :: F) := (Holds.pkF H56_ [0] 1 :)
      exact ⟨_, _, rfl, ⟨(congrArg (Value.int .i64) (he31_.symm : 1 = refT x most)), rfl⟩, S40_, H57_⟩
     ·skip
      have S41_ := Same.trans S28_ S36_
      refine S_list (T_callW (al := [(Value.iface 133 (Value.string (ByteArray.mk #[101, 116, 99, 100, 115, 101, 114, 118, 101, 114, 58, 32, 116, 111, 111, 32, 109, 97, 110, 121, 32, 111, 112, 101, 114, 97, 116, 105, 111, 110, 115, 32, 105, 110, 32, 116, 120, 110, 32, 114, 101, 113, 117, 101, 115, 116])))]) rfl rfl cb40 (Calls.into (n := 27) (al := [(Value.iface 133 (Value.string (ByteArray.mk #[101, 116, 99, 100, 115, 101, 114, 118, 101, 114, 58, 32, 116, 111, 111, 32, 109, 97, 110, 121, 32, 111, 112, 101, 114, 97, 116, 105, 111, 110, 115, 32, 105, 110, 32, 116, 120, 110, 32, 114, 101, 113, 117, 101, 115, 116])))]) Try.func40 rfl Try.ntmps40 rfl rfl ?_))
      refine C_seq (fun K58_ hK58_ => ?_)
      refine C_reg ?_
      refine S_list (T_val (v := (Value.int .i64 0)) (x_assign rfl) ?_)
      refine wpList_nil ?_
      refine (X_then (hK58_ _ _ ?_))
      clear hK58_
      refine C_seq (fun K59_ hK59_ => ?_)
      refine C_seq (fun K60_ hK60_ => ?_)
      refine C_reg ?_
      refine S_list (T_val (v := (Value.iface 133 (Value.string (ByteArray.mk #[101, 116, 99, 100, 115, 101, 114, 118, 101, 114, 58, 32, 116, 111, 111, 32, 109, 97, 110, 121, 32, 111, 112, 101, 114, 97, 116, 105, 111, 110, 115, 32, 105, 110, 32, 116, 120, 110, 32, 114, 101, 113, 117, 101, 115, 116])))) (x_move rfl) ?_)
      refine wpList_nil ?_
      refine (X_then (hK60_ _ _ ?_))
      clear hK60_
      refine C_block ?_
      refine C_seq (fun K61_ hK61_ => ?_)
      refine C_reg ?_
      refine S_list (T_val (v := (Value.bool false)) (by kernel_rfl) ?_)
      refine S_list (T_val (v := (Value.bool false)) (x_assign rfl) ?_)
      refine wpList_nil ?_
      refine (X_then (hK61_ _ _ ?_))
      clear hK61_
      refine C_condF rfl ?_
      refine C_seq (fun K62_ hK62_ => ?_)
      refine C_reg ?_
      refine S_list (T_val (v := (Value.iface 133 (Value.string (ByteArray.mk #[101, 116, 99, 100, 115, 101, 114, 118, 101, 114, 58, 32, 107, 101, 121, 32, 105, 115, 32, 110, 111, 116, 32, 112, 114, 111, 118, 105, 100, 101, 100])))) (by kernel_rfl) ?_)
      refine S_list (T_val (v := (Value.bool false)) (x_cast (x_eqK rfl rfl Try.underlying84 (by kernel_rfl) Try.underlying133) (congrArg Value.bool (by simp only [toList_data]; decide))) ?_)
      refine S_list (T_val (v := (Value.bool false)) (x_assign rfl) ?_)
      refine wpList_nil ?_
      refine (X_then (hK62_ _ _ ?_))
      clear hK62_
      refine C_condF rfl ?_
      refine C_seq (fun K63_ hK63_ => ?_)
      refine C_reg ?_
      refine S_list (T_val (v := (Value.iface 133 (Value.string (ByteArray.mk #[101, 116, 99, 100, 115, 101, 114, 118, 101, 114, 58, 32, 118, 97, 108, 117, 101, 32, 105, 115, 32, 112, 114, 111, 118, 105, 100, 101, 100])))) (by kernel_rfl) ?_)
      refine S_list (T_val (v := (Value.bool false)) (x_cast (x_eqK rfl rfl Try.underlying84 (by kernel_rfl) Try.underlying133) (congrArg Value.bool (by simp only [toList_data]; decide))) ?_)
      refine S_list (T_val (v := (Value.bool false)) (x_assign rfl) ?_)
      refine wpList_nil ?_
      refine (X_then (hK63_ _ _ ?_))
      clear hK63_
      refine C_condF rfl ?_
      refine C_seq (fun K64_ hK64_ => ?_)
      refine C_reg ?_
      refine S_list (T_val (v := (Value.iface 133 (Value.string (ByteArray.mk #[101, 116, 99, 100, 115, 101, 114, 118, 101, 114, 58, 32, 108, 101, 97, 115, 101, 32, 105, 115, 32, 112, 114, 111, 118, 105, 100, 101, 100])))) (by kernel_rfl) ?_)
      refine S_list (T_val (v := (Value.bool false)) (x_cast (x_eqK rfl rfl Try.underlying84 (by kernel_rfl) Try.underlying133) (congrArg Value.bool (by simp only [toList_data]; decide))) ?_)
      refine S_list (T_val (v := (Value.bool false)) (x_assign rfl) ?_)
      refine wpList_nil ?_
      refine (X_then (hK64_ _ _ ?_))
      clear hK64_
      refine C_condF rfl ?_
      refine C_seq (fun K65_ hK65_ => ?_)
      refine C_reg ?_
      refine S_list (T_val (v := (Value.iface 133 (Value.string (ByteArray.mk #[101, 116, 99, 100, 115, 101, 114, 118, 101, 114, 58, 32, 116, 111, 111, 32, 109, 97, 110, 121, 32, 111, 112, 101, 114, 97, 116, 105, 111, 110, 115, 32, 105, 110, 32, 116, 120, 110, 32, 114, 101, 113, 117, 101, 115, 116])))) (by kernel_rfl) ?_)
      refine S_list (T_val (v := (Value.bool true)) (x_cast (x_eqK rfl rfl Try.underlying84 (by kernel_rfl) Try.underlying133) (congrArg Value.bool (by simp only [toList_data]; decide))) ?_)
      refine S_list (T_val (v := (Value.bool true)) (x_assign rfl) ?_)
      refine wpList_nil ?_
      refine (X_then (hK65_ _ _ ?_))
      clear hK65_
      refine C_condT rfl ?_
      refine C_seq (fun K66_ hK66_ => ?_)
      refine C_reg ?_
      refine S_list (T_val (v := (Value.int .i64 4)) (x_assign rfl) ?_)
      refine wpList_nil ?_
      refine (X_then (hK66_ _ _ ?_))
      clear hK66_
      refine C_ret (X_blkR (X_thenR ?_))
      refine R_any (v := (Value.int .i64 4)) (run_results1 rfl rfl) ⟨_, rfl, ?_⟩
      refine S_list (T_val (v := (Value.int .i64 4)) (x_assign rfl) ?_)
      refine wpList_nil ?_
      refine (X_then (hK17_ _ _ ?_))
      clear hK17_
      refine C_ret (X_blkR (X_thenR ?_))
      refine R_any (v := (Value.int .i64 4)) (run_results1 rfl rfl) ?_
      have H67_ : Holds w34_ (ro R :: cl b2_ 25 [(Value.int .i64 x.q.kind), (Value.string x.q.key), (Value.string x.q.end_), (Value.string x.q.value), (Value.int .i64 x.q.lease), (Value.int .i64 x.q.rev), (Value.int .i64 x.q.limit), (Value.int .i64 x.q.sortOrder), (Value.int .i64 x.q.sortTarget), (Value.int .i64 x.q.minMod), (Value.int .i64 x.q.maxMod), (Value.int .i64 x.q.minCreate), (Value.int .i64 x.q.maxCreate), (Value.bool x.q.keysOnly), (Value.bool x.q.countOnly), (Value.bool x.q.prev), (Value.bool x.q.ignoreValue), (Value.bool x.q.ignoreLease), x.q.cmps, x.q.then_, x.q.else_] :: F) := Holds.ro_less H35_ hs18_
      have H68_ : Holds w34_ (ro R :: F) := (Holds.pkF H67_ [0] 1 :)
      exact ⟨_, _, rfl, ⟨(congrArg (Value.int .i64) (he32_.symm : 4 = refT x most)), rfl⟩, S41_, H68_⟩
     ·skip
      have S42_ := Same.trans S28_ S36_
      refine S_list (T_callW (al := [(Value.iface 133 (Value.string (ByteArray.mk #[101, 116, 99, 100, 115, 101, 114, 118, 101, 114, 58, 32, 105, 110, 118, 97, 108, 105, 100, 32, 115, 111, 114, 116, 32, 111, 112, 116, 105, 111, 110])))]) rfl rfl cb40 (Calls.into (n := 27) (al := [(Value.iface 133 (Value.string (ByteArray.mk #[101, 116, 99, 100, 115, 101, 114, 118, 101, 114, 58, 32, 105, 110, 118, 97, 108, 105, 100, 32, 115, 111, 114, 116, 32, 111, 112, 116, 105, 111, 110])))]) Try.func40 rfl Try.ntmps40 rfl rfl ?_))
      refine C_seq (fun K69_ hK69_ => ?_)
      refine C_reg ?_
      refine S_list (T_val (v := (Value.int .i64 0)) (x_assign rfl) ?_)
      refine wpList_nil ?_
      refine (X_then (hK69_ _ _ ?_))
      clear hK69_
      refine C_seq (fun K70_ hK70_ => ?_)
      refine C_seq (fun K71_ hK71_ => ?_)
      refine C_reg ?_
      refine S_list (T_val (v := (Value.iface 133 (Value.string (ByteArray.mk #[101, 116, 99, 100, 115, 101, 114, 118, 101, 114, 58, 32, 105, 110, 118, 97, 108, 105, 100, 32, 115, 111, 114, 116, 32, 111, 112, 116, 105, 111, 110])))) (x_move rfl) ?_)
      refine wpList_nil ?_
      refine (X_then (hK71_ _ _ ?_))
      clear hK71_
      refine C_block ?_
      refine C_seq (fun K72_ hK72_ => ?_)
      refine C_reg ?_
      refine S_list (T_val (v := (Value.bool false)) (by kernel_rfl) ?_)
      refine S_list (T_val (v := (Value.bool false)) (x_assign rfl) ?_)
      refine wpList_nil ?_
      refine (X_then (hK72_ _ _ ?_))
      clear hK72_
      refine C_condF rfl ?_
      refine C_seq (fun K73_ hK73_ => ?_)
      refine C_reg ?_
      refine S_list (T_val (v := (Value.iface 133 (Value.string (ByteArray.mk #[101, 116, 99, 100, 115, 101, 114, 118, 101, 114, 58, 32, 107, 101, 121, 32, 105, 115, 32, 110, 111, 116, 32, 112, 114, 111, 118, 105, 100, 101, 100])))) (by kernel_rfl) ?_)
      refine S_list (T_val (v := (Value.bool false)) (x_cast (x_eqK rfl rfl Try.underlying84 (by kernel_rfl) Try.underlying133) (congrArg Value.bool (by simp only [toList_data]; decide))) ?_)
      refine S_list (T_val (v := (Value.bool false)) (x_assign rfl) ?_)
      refine wpList_nil ?_
      refine (X_then (hK73_ _ _ ?_))
      clear hK73_
      refine C_condF rfl ?_
      refine C_seq (fun K74_ hK74_ => ?_)
      refine C_reg ?_
      refine S_list (T_val (v := (Value.iface 133 (Value.string (ByteArray.mk #[101, 116, 99, 100, 115, 101, 114, 118, 101, 114, 58, 32, 118, 97, 108, 117, 101, 32, 105, 115, 32, 112, 114, 111, 118, 105, 100, 101, 100])))) (by kernel_rfl) ?_)
      refine S_list (T_val (v := (Value.bool false)) (x_cast (x_eqK rfl rfl Try.underlying84 (by kernel_rfl) Try.underlying133) (congrArg Value.bool (by simp only [toList_data]; decide))) ?_)
      refine S_list (T_val (v := (Value.bool false)) (x_assign rfl) ?_)
      refine wpList_nil ?_
      refine (X_then (hK74_ _ _ ?_))
      clear hK74_
      refine C_condF rfl ?_
      refine C_seq (fun K75_ hK75_ => ?_)
      refine C_reg ?_
      refine S_list (T_val (v := (Value.iface 133 (Value.string (ByteArray.mk #[101, 116, 99, 100, 115, 101, 114, 118, 101, 114, 58, 32, 108, 101, 97, 115, 101, 32, 105, 115, 32, 112, 114, 111, 118, 105, 100, 101, 100])))) (by kernel_rfl) ?_)
      refine S_list (T_val (v := (Value.bool false)) (x_cast (x_eqK rfl rfl Try.underlying84 (by kernel_rfl) Try.underlying133) (congrArg Value.bool (by simp only [toList_data]; decide))) ?_)
      refine S_list (T_val (v := (Value.bool false)) (x_assign rfl) ?_)
      refine wpList_nil ?_
      refine (X_then (hK75_ _ _ ?_))
      clear hK75_
      refine C_condF rfl ?_
      refine C_seq (fun K76_ hK76_ => ?_)
      refine C_reg ?_
      refine S_list (T_val (v := (Value.iface 133 (Value.string (ByteArray.mk #[101, 116, 99, 100, 115, 101, 114, 118, 101, 114, 58, 32, 116, 111, 111, 32, 109, 97, 110, 121, 32, 111, 112, 101, 114, 97, 116, 105, 111, 110, 115, 32, 105, 110, 32, 116, 120, 110, 32, 114, 101, 113, 117, 101, 115, 116])))) (by kernel_rfl) ?_)
      refine S_list (T_val (v := (Value.bool false)) (x_cast (x_eqK rfl rfl Try.underlying84 (by kernel_rfl) Try.underlying133) (congrArg Value.bool (by simp only [toList_data]; decide))) ?_)
      refine S_list (T_val (v := (Value.bool false)) (x_assign rfl) ?_)
      refine wpList_nil ?_
      refine (X_then (hK76_ _ _ ?_))
      clear hK76_
      refine C_condF rfl ?_
      refine C_seq (fun K77_ hK77_ => ?_)
      refine C_reg ?_
      refine S_list (T_val (v := (Value.iface 133 (Value.string (ByteArray.mk #[101, 116, 99, 100, 115, 101, 114, 118, 101, 114, 58, 32, 100, 117, 112, 108, 105, 99, 97, 116, 101, 32, 107, 101, 121, 32, 103, 105, 118, 101, 110, 32, 105, 110, 32, 116, 120, 110, 32, 114, 101, 113, 117, 101, 115, 116])))) (by kernel_rfl) ?_)
      refine S_list (T_val (v := (Value.bool false)) (x_cast (x_eqK rfl rfl Try.underlying84 (by kernel_rfl) Try.underlying133) (congrArg Value.bool (by simp only [toList_data]; decide))) ?_)
      refine S_list (T_val (v := (Value.bool false)) (x_assign rfl) ?_)
      refine wpList_nil ?_
      refine (X_then (hK77_ _ _ ?_))
      clear hK77_
      refine C_condF rfl ?_
      refine C_seq (fun K78_ hK78_ => ?_)
      refine C_reg ?_
      refine S_list (T_val (v := (Value.iface 133 (Value.string (ByteArray.mk #[101, 116, 99, 100, 115, 101, 114, 118, 101, 114, 58, 32, 105, 110, 118, 97, 108, 105, 100, 32, 115, 111, 114, 116, 32, 111, 112, 116, 105, 111, 110])))) (by kernel_rfl) ?_)
      refine S_list (T_val (v := (Value.bool true)) (x_cast (x_eqK rfl rfl Try.underlying84 (by kernel_rfl) Try.underlying133) (congrArg Value.bool (by simp only [toList_data]; decide))) ?_)
      refine S_list (T_val (v := (Value.bool true)) (x_assign rfl) ?_)
      refine wpList_nil ?_
      refine (X_then (hK78_ _ _ ?_))
      clear hK78_
      refine C_condT rfl ?_
      refine C_seq (fun K79_ hK79_ => ?_)
      refine C_reg ?_
      refine S_list (T_val (v := (Value.int .i64 6)) (x_assign rfl) ?_)
      refine wpList_nil ?_
      refine (X_then (hK79_ _ _ ?_))
      clear hK79_
      refine C_ret (X_blkR (X_thenR ?_))
      refine R_any (v := (Value.int .i64 6)) (run_results1 rfl rfl) ⟨_, rfl, ?_⟩
      refine S_list (T_val (v := (Value.int .i64 6)) (x_assign rfl) ?_)
      refine wpList_nil ?_
      refine (X_then (hK17_ _ _ ?_))
      clear hK17_
      refine C_ret (X_blkR (X_thenR ?_))
      refine R_any (v := (Value.int .i64 6)) (run_results1 rfl rfl) ?_
      have H80_ : Holds w34_ (ro R :: cl b2_ 25 [(Value.int .i64 x.q.kind), (Value.string x.q.key), (Value.string x.q.end_), (Value.string x.q.value), (Value.int .i64 x.q.lease), (Value.int .i64 x.q.rev), (Value.int .i64 x.q.limit), (Value.int .i64 x.q.sortOrder), (Value.int .i64 x.q.sortTarget), (Value.int .i64 x.q.minMod), (Value.int .i64 x.q.maxMod), (Value.int .i64 x.q.minCreate), (Value.int .i64 x.q.maxCreate), (Value.bool x.q.keysOnly), (Value.bool x.q.countOnly), (Value.bool x.q.prev), (Value.bool x.q.ignoreValue), (Value.bool x.q.ignoreLease), x.q.cmps, x.q.then_, x.q.else_] :: F) := Holds.ro_less H35_ hs18_
      have H81_ : Holds w34_ (ro R :: F) := (Holds.pkF H80_ [0] 1 :)
      exact ⟨_, _, rfl, ⟨(congrArg (Value.int .i64) (he33_.symm : 6 = refT x most)), rfl⟩, S42_, H81_⟩
    ·have c16_fp : ¬ (x.q.kind = 4) := of_decide_eq_false c16_f
     omega
end Go.Proofs.Ytlnihndjepjagaa
