/- The hash of rows: as the store reckons it. -/
import Derived.Test.YtgeggiebefonhaaHcD
set_option linter.unusedVariables false
set_option linter.unusedSimpArgs false
namespace Go.Proofs.Ytgeggiebefonhaa
open Go Go.RowKit Gw

set_option maxHeartbeats 400000 in
theorem hName (R : HP) :
    Tri Try.prog 181 #[(Value.agg #[(Value.int .i64 1), (Value.string (ByteArray.mk #[107, 101, 121])), (Value.bool true)])] R [] (fun v__ post__ => ∃ (v' : Value), v__ = v' ∧ post__ = [sl 5 1 v' (List.length ([107, 101, 121] : List Int)) (bytesV ([107, 101, 121] : List Int))]) := by
  refine Tri.into (n := 6) (al := [(Value.agg #[(Value.int .i64 1), (Value.string (ByteArray.mk #[107, 101, 121])), (Value.bool true)])]) Try.func181 rfl Try.ntmps181 rfl rfl fun w F H => ?_
  replace H : Holds w (ro R :: F) := H
  refine C_seq (fun K1_ hK1_ => ?_)
  refine C_reg ?_
  refine S_list (T_box (v := (Value.agg #[(Value.int .i64 1), (Value.string (ByteArray.mk #[107, 101, 121])), (Value.bool true)])) rfl H ?_)
  intro b2_ w3_ S5_ H4_
  replace H4_ : Holds w3_ (cl b2_ 247 [(Value.int .i64 1), (Value.string (ByteArray.mk #[107, 101, 121])), (Value.bool true)] :: ro R :: F) := H4_
  have S6_ := Same.trans (Same.refl w) S5_
  refine S_list (T_val (v := (Value.slice none 0 0)) (x_assign rfl) ?_)
  refine wpList_nil ?_
  refine (X_then (hK1_ _ _ ?_))
  clear hK1_
  refine C_seq (fun K7_ hK7_ => ?_)
  refine C_reg ?_
  refine S_list (T_val (v := (Value.pointer (some ⟨b2_, 1, none⟩))) (by kernel_rfl) ?_)
  refine S_list (T_val (v := (Value.string (ByteArray.mk #[107, 101, 121]))) (x_load1 rfl Try.underlying9 rfl ((Holds.rd H4_ 0 rfl) 1 (Value.string (ByteArray.mk #[107, 101, 121])) rfl)) ?_)
  refine S_list (T_s2b rfl Try.underlying9 Try.underlying43 Try.underlying5 H4_ ?_)
  intro b8_ cp9_ w10_ S12_ hc13_ H11_
  have S14_ := Same.trans S6_ S12_
  have H15_ : Holds w10_ (sl 5 1 (Value.slice (some ⟨b8_, 0, none⟩) ((ByteArray.mk #[107, 101, 121]).size) cp9_) ((ByteArray.mk #[107, 101, 121]).size) (bytesV (ints (ByteArray.mk #[107, 101, 121]))) :: cl b2_ 247 [(Value.int .i64 1), (Value.string (ByteArray.mk #[107, 101, 121])), (Value.bool true)] :: ro R :: F) := cast2 (P := fun (c__ : List Value) (k__ : Nat) => Holds w10_ (sl 5 1 (Value.slice (some ⟨b8_, 0, none⟩) ((ByteArray.mk #[107, 101, 121]).size) cp9_) k__ c__ :: cl b2_ 247 [(Value.int .i64 1), (Value.string (ByteArray.mk #[107, 101, 121])), (Value.bool true)] :: ro R :: F)) (byteCells_bytesV _ : byteCells (ByteArray.mk #[107, 101, 121]) = bytesV (ints (ByteArray.mk #[107, 101, 121]))) (rfl : (ByteArray.mk #[107, 101, 121]).size = (ByteArray.mk #[107, 101, 121]).size) H11_
  have H16_ : Holds w10_ (sl 5 1 (Value.slice (some ⟨b8_, 0, none⟩) ((ByteArray.mk #[107, 101, 121]).size) cp9_) (List.length (ints (ByteArray.mk #[107, 101, 121]))) (bytesV (ints (ByteArray.mk #[107, 101, 121]))) :: cl b2_ 247 [(Value.int .i64 1), (Value.string (ByteArray.mk #[107, 101, 121])), (Value.bool true)] :: ro R :: F) := cast2 (P := fun (c__ : List Value) (k__ : Nat) => Holds w10_ (sl 5 1 (Value.slice (some ⟨b8_, 0, none⟩) ((ByteArray.mk #[107, 101, 121]).size) cp9_) k__ c__ :: cl b2_ 247 [(Value.int .i64 1), (Value.string (ByteArray.mk #[107, 101, 121])), (Value.bool true)] :: ro R :: F)) (rfl : bytesV (ints (ByteArray.mk #[107, 101, 121])) = bytesV (ints (ByteArray.mk #[107, 101, 121]))) ((ints_length _).symm : (ByteArray.mk #[107, 101, 121]).size = (List.length (ints (ByteArray.mk #[107, 101, 121])))) H15_
  refine S_list (T_val (v := (Value.slice (some ⟨b8_, 0, none⟩) ((ByteArray.mk #[107, 101, 121]).size) cp9_)) (x_assign rfl) ?_)
  refine wpList_nil ?_
  refine (X_then (hK7_ _ _ ?_))
  clear hK7_
  refine C_ret ?_
  refine R_any (v := (Value.slice (some ⟨b8_, 0, none⟩) ((ByteArray.mk #[107, 101, 121]).size) cp9_)) (run_results1 rfl rfl) ?_
  have H17_ : Holds w10_ (sl 5 1 (Value.slice (some ⟨b8_, 0, none⟩) ((ByteArray.mk #[107, 101, 121]).size) cp9_) (List.length ([107, 101, 121] : List Int)) (bytesV ([107, 101, 121] : List Int)) :: cl b2_ 247 [(Value.int .i64 1), (Value.string (ByteArray.mk #[107, 101, 121])), (Value.bool true)] :: ro R :: F) := cast2 (P := fun (c__ : List Value) (k__ : Nat) => Holds w10_ (sl 5 1 (Value.slice (some ⟨b8_, 0, none⟩) ((ByteArray.mk #[107, 101, 121]).size) cp9_) k__ c__ :: cl b2_ 247 [(Value.int .i64 1), (Value.string (ByteArray.mk #[107, 101, 121])), (Value.bool true)] :: ro R :: F)) ((by rfl) : bytesV (ints (ByteArray.mk #[107, 101, 121])) = bytesV ([107, 101, 121] : List Int)) ((by rfl) : (List.length (ints (ByteArray.mk #[107, 101, 121]))) = (List.length ([107, 101, 121] : List Int))) H16_
  have H18_ : Holds w10_ (ro R :: sl 5 1 (Value.slice (some ⟨b8_, 0, none⟩) ((ByteArray.mk #[107, 101, 121]).size) cp9_) (List.length ([107, 101, 121] : List Int)) (bytesV ([107, 101, 121] : List Int)) :: F) := (Holds.erase (Holds.bring (Holds.bring H17_ 0 rfl) 2 rfl) 2)
  exact ⟨_, [sl 5 1 (Value.slice (some ⟨b8_, 0, none⟩) ((ByteArray.mk #[107, 101, 121]).size) cp9_) (List.length ([107, 101, 121] : List Int)) (bytesV ([107, 101, 121] : List Int))], rfl, ⟨(Value.slice (some ⟨b8_, 0, none⟩) ((ByteArray.mk #[107, 101, 121]).size) cp9_), (rfl : (Value.slice (some ⟨b8_, 0, none⟩) ((ByteArray.mk #[107, 101, 121]).size) cp9_) = ((Value.slice (some ⟨b8_, 0, none⟩) ((ByteArray.mk #[107, 101, 121]).size) cp9_))), rfl⟩, S14_, H18_⟩

set_option maxHeartbeats 1000000 in
theorem hZzHash (R : HP) (compact rev : Int) (vk vz : Value) (K : List RV) (zs : List ZR) (L : List RW) (hKs : RS R 2 vk K.length (K.flatMap RV.cells)) (hZs : RS R 4 vz zs.length (zs.flatMap ZR.cells)) (hZ : ZipR R zs L) (hl : zs.length ≤ 1000) (hKl : K.length ≤ 1000) (hS : ∀ x ∈ L, 0 ≤ x.rev_Main ∧ x.rev_Main < 9223372036854775808 ∧ 0 ≤ x.rev_Sub ∧ x.rev_Sub < 9223372036854775808 ∧ x.kV_Key.size ≤ 100 ∧ x.kV_Value.size ≤ 100) (hr0 : 0 ≤ rev) (hr1 : rev < 4611686018427387904) (hc0 : -1 ≤ compact) (hc1 : compact < 4611686018427387904) :
    Tri Try.prog 41 #[(Value.int .i64 compact), (Value.int .i64 rev), vk, vz] R [] (fun v__ post__ => v__ = (Value.int .u32 (hash compact rev K L)) ∧ post__ = []) := by
  have hzl_ := hZ.1
  refine Tri.into (n := 53) (al := [(Value.int .i64 compact), (Value.int .i64 rev), vk, vz]) Try.func41 rfl Try.ntmps41 rfl rfl fun w F H => ?_
  replace H : Holds w (ro R :: F) := H
  refine C_seq (fun K1_ hK1_ => ?_)
  refine C_reg ?_
  refine S_list (T_val (v := (Value.int .u32 0)) (x_assign rfl) ?_)
  refine wpList_nil ?_
  refine (X_then (hK1_ _ _ ?_))
  clear hK1_
  refine C_seq (fun K2_ hK2_ => ?_)
  refine C_reg ?_
  refine S_list (T_makeMap K2 H ?_)
  intro b3_ w4_ S6_ H5_
  replace H5_ : Holds w4_ (mp K2 b3_ [] :: ro R :: F) := H5_
  have S7_ := Same.trans (Same.refl w) S6_
  refine S_list (T_val (v := (Value.map (some b3_))) (x_assign rfl) ?_)
  refine wpList_nil ?_
  refine (X_then (hK2_ _ _ ?_))
  clear hK2_
  refine C_seq (fun K8_ hK8_ => ?_)
  refine C_seq (fun K9_ hK9_ => ?_)
  refine C_reg ?_
  refine S_list (T_val (v := vk) (x_move rfl) ?_)
  refine S_list (T_val (v := (Value.int .i64 (K.length : Int))) (x_lenRS rfl hKs Try.underlying90) ?_)
  refine S_list (T_val (v := (Value.int .i64 0)) (x_move rfl) ?_)
  refine wpList_nil ?_
  refine (X_then (hK9_ _ _ ?_))
  clear hK9_
  refine C_block ?_
  have eH10_ : mp K2 b3_ [] = mp K2 b3_ ([] : List ((Int × Int) × Value)) := by first | rfl | (congr 1 <;> first | rfl | omega | (simp; done) | (simp; omega))
  have H10_ : Holds w4_ (mp K2 b3_ ([] : List ((Int × Int) × Value)) :: ro R :: F) := cast1 (P := fun c__ => Holds w4_ (c__ :: ro R :: F)) eH10_ H5_
  refine C_loop (γ := Nat × (List ((Int × Int) × Value))) (fun x__ a__ w1__ => match x__ with | ⟨k, m⟩ => ∃ h : Env, a__ = mkA 53 (upd (upd (upd (upd (upd (upd (upd (upd h 0 (Value.int .i64 compact)) 1 (Value.int .i64 rev)) 3 vz) 8 (Value.int .u32 0)) 9 (Value.map (some b3_))) 17 vk) 18 (Value.int .i64 (K.length : Int))) 19 (Value.int .i64 (k : Int))) [] ∧ Holds w1__ (mp K2 b3_ m :: ro R :: F) ∧ Same w w1__ ∧ (k ≤ K.length) ∧ (MK m ((List.take k K).map RV.pair))) (fun x__ => match x__ with | ⟨k, m⟩ => K.length - k) (⟨0, ([] : List ((Int × Int) × Value))⟩) ⟨_, congrArg (fun e => mkA 53 e []) (ch (ch (ch (ch (ch (ch (ch (ch rfl rfl) rfl) rfl) rfl) rfl) rfl) rfl) (congrArg (Value.int .i64) ((by first | rfl | omega | (simp; done) | (simp; omega)) : 0 = (0 : Int)))), H10_, S7_, (by first | assumption | omega | exact rfl), (MK.empty)⟩ ?_
  rintro ⟨k, m⟩ _ w11_ ⟨h, rfl, H12_, S13_, hk, hmk⟩
  refine C_seq (fun K14_ hK14_ => ?_)
  refine C_reg ?_
  refine S_list (T_val (v := (Value.bool (decide ((k : Int) < (K.length : Int))))) (x_bin rfl rfl rfl) ?_)
  refine wpList_nil ?_
  refine (X_then (hK14_ _ _ ?_))
  clear hK14_
  refine C_seq (fun K15_ hK15_ => ?_)
  refine C_cond (b := decide ((k : Int) < (K.length : Int))) rfl (fun c16_t => ?_) (fun c16_f => ?_)
  · have c16_tp : (k : Int) < (K.length : Int) := of_decide_eq_true c16_t
    refine C_skip (X_then (hK15_ _ _ ?_))
    clear hK15_
    refine C_seq (fun K17_ hK17_ => ?_)
    refine C_block ?_
    refine C_seq (fun K18_ hK18_ => ?_)
    refine C_reg ?_
    obtain ⟨x19_, hx20_, hm21_⟩ := elem_at K k (by omega)
    refine S_list (T_val (v := (Value.pointer (some ⟨(sb vk), so vk + (k * 2 + 0), none⟩))) (x_idxRS (v := vk) rfl hKs rfl Try.underlying90 z146 (by omega) (by omega) (by omega : _ = k) rfl) ?_)
    refine S_list (T_val (v := (Value.agg #[(Value.int .i64 x19_.main), (Value.int .i64 x19_.sub)])) (x_loadN (vs := [(Value.int .i64 x19_.main), (Value.int .i64 x19_.sub)]) rfl Try.underlying146 rfl z146 rfl (RC.cells (RS.rc hKs) (Holds.ro_at H12_ 1 rfl) (k * 2 + 0) (fm_cells RV.len hx20_ (i := 0) rfl))) ?_)
    refine S_list (T_alloc z146 H12_ ?_)
    intro b22_ w23_ S25_ H24_
    replace H24_ : Holds w23_ (cl b22_ 146 [(Value.int .i64 0), (Value.int .i64 0)] :: mp K2 b3_ m :: ro R :: F) := H24_
    have S26_ := Same.trans S13_ S25_
    refine S_list0 (T_storeN (vs := [(Value.int .i64 x19_.main), (Value.int .i64 x19_.sub)]) rfl rfl z146 rfl (by simp [Value.oneCell']) H24_ 0 rfl (Nat.le_of_ble_eq_true (by rfl)) ?_)
    intro w27_ S29_ H28_
    replace H28_ : Holds w27_ (cl b22_ 146 [(Value.int .i64 x19_.main), (Value.int .i64 x19_.sub)] :: mp K2 b3_ m :: ro R :: F) := H28_
    have S30_ := Same.trans S26_ S29_
    refine wpList_nil ?_
    refine (X_then (hK18_ _ _ ?_))
    clear hK18_
    refine C_reg ?_
    refine S_list (T_val (v := (Value.map (some b3_))) (x_move rfl) ?_)
    refine S_list (T_val (v := (Value.agg #[(Value.int .i64 x19_.main), (Value.int .i64 x19_.sub)])) (x_loadN (vs := [(Value.int .i64 x19_.main), (Value.int .i64 x19_.sub)]) rfl Try.underlying146 rfl z146 rfl (Rd.cells (Holds.rd H28_ 0 rfl) 0 rfl)) ?_)
    refine S_list (T_val (v := (Value.agg #[])) (by kernel_rfl) ?_)
    refine S_list0 (T_mapUpdate (K := K2) (a := (x19_.main, x19_.sub)) rfl rfl rfl (KeyKind.pair (t := 2) ⟨Try.underlying146, by kernel_rfl, by kernel_rfl, by kernel_rfl, rfl, rfl, rfl, rfl, Try.underlying2⟩) Try.underlying145 H28_ 1 rfl (hmk.nd) ?_)
    intro w31_ S33_ H32_
    replace H32_ : Holds w31_ (cl b22_ 146 [(Value.int .i64 x19_.main), (Value.int .i64 x19_.sub)] :: mp K2 b3_ (mset m (x19_.main, x19_.sub) (Value.agg #[])) :: ro R :: F) := H32_
    have S34_ := Same.trans S30_ S33_
    refine wpList_nil ?_
    refine (X_blkN (X_then (hK17_ _ _ ?_)))
    clear hK17_
    refine C_reg ?_
    refine S_list (T_val (v := (Value.int .i64 ((k : Int) + 1))) (x_bin rfl rfl (ib_add (IntWalk.i64_in _ (by omega)))) ?_)
    refine S_list (T_val (v := (Value.int .i64 ((k : Int) + 1))) (x_move rfl) ?_)
    refine wpList_nil ?_
    refine (X_then ?_)
    have H35_ : Holds w31_ (mp K2 b3_ (mset m (x19_.main, x19_.sub) (Value.agg #[])) :: ro R :: F) := (Holds.erase (Holds.bring (Holds.bring H32_ 2 rfl) 2 rfl) 2)
    exact ⟨⟨k + 1, mset m (x19_.main, x19_.sub) (Value.agg #[])⟩, ⟨_, congrArg (fun e => mkA 53 e []) (ch (ch (ch (ch (ch (ch (ch (ch rfl rfl) rfl) rfl) rfl) rfl) rfl) rfl) (congrArg (Value.int .i64) ((by first | rfl | omega | (simp; done) | (simp; omega)) : (k : Int) + 1 = ((k + 1 : Nat) : Int)))), H35_, S34_, (by first | assumption | omega | exact rfl), (by rw [take_snoc hx20_, List.map_append]; exact hmk.next (RV.pair x19_))⟩, by first | omega | (dsimp only; omega) | (simp; omega)⟩
  · have c16_fp : ¬ ((k : Int) < (K.length : Int)) := of_decide_eq_false c16_f
    refine C_exit (X_thenX (X_thenX (X_blkHit ?_)))
    refine (X_then (hK8_ _ _ ?_))
    clear hK8_
    refine C_seq (fun K36_ hK36_ => ?_)
    refine C_reg ?_
    refine S_list (T_val (v := (Value.int .i64 compact)) (x_move rfl) ?_)
    refine S_list (T_val (v := (Value.int .i64 rev)) (x_move rfl) ?_)
    refine S_list (T_val (v := (Value.map (some b3_))) (x_move rfl) ?_)
    refine S_list (T_callW (al := [(Value.int .i64 compact), (Value.int .i64 rev), (Value.map (some b3_))]) rfl rfl cb67 (Calls.into (n := 18) (al := [(Value.int .i64 compact), (Value.int .i64 rev), (Value.map (some b3_))]) Try.func67 rfl Try.ntmps67 rfl rfl ?_))
    refine C_seq (fun K37_ hK37_ => ?_)
    refine C_reg ?_
    refine S_list (T_alloc z150 H12_ ?_)
    intro b38_ w39_ S41_ H40_
    replace H40_ : Holds w39_ (cl b38_ 150 [(Value.pointer none), (Value.int .i64 0), (Value.int .i64 0), (Value.map none)] :: mp K2 b3_ m :: ro R :: F) := H40_
    have S42_ := Same.trans S13_ S41_
    refine wpList_nil ?_
    refine (X_then (hK37_ _ _ ?_))
    clear hK37_
    refine C_seq (fun K43_ hK43_ => ?_)
    refine C_reg ?_
    refine S_list (T_callW (al := []) rfl rfl cb87 (Calls.into (n := 3) (al := []) Try.func87 rfl Try.ntmps87 rfl rfl ?_))
    refine C_seq (fun K44_ hK44_ => ?_)
    refine C_reg ?_
    refine S_list (T_val (v := (Value.pointer none)) (x_assign rfl) ?_)
    refine wpList_nil ?_
    refine (X_then (hK44_ _ _ ?_))
    clear hK44_
    refine C_seq (fun K45_ hK45_ => ?_)
    refine C_reg ?_
    refine S_list (T_val (v := (Value.agg #[(Value.int .u32 0)])) (by kernel_rfl) ?_)
    refine S_list (T_box (v := (Value.agg #[(Value.int .u32 0)])) rfl H40_ ?_)
    intro b46_ w47_ S49_ H48_
    replace H48_ : Holds w47_ (cl b46_ 244 [(Value.int .u32 0)] :: cl b38_ 150 [(Value.pointer none), (Value.int .i64 0), (Value.int .i64 0), (Value.map none)] :: mp K2 b3_ m :: ro R :: F) := H48_
    have S50_ := Same.trans S42_ S49_
    refine S_list (T_val (v := (Value.pointer (some ⟨b46_, 0, none⟩))) (x_assign rfl) ?_)
    refine wpList_nil ?_
    refine (X_then (hK45_ _ _ ?_))
    clear hK45_
    refine C_ret ?_
    refine R_any (v := (Value.pointer (some ⟨b46_, 0, none⟩))) (run_results1 rfl rfl) ⟨_, rfl, ?_⟩
    refine S_list (T_val (v := (Value.pointer (some ⟨b46_, 0, none⟩))) (x_assign rfl) ?_)
    refine wpList_nil ?_
    refine (X_then (hK43_ _ _ ?_))
    clear hK43_
    refine C_seq (fun K51_ hK51_ => ?_)
    refine C_reg ?_
    refine S_list (T_val (v := (Value.pointer (some ⟨b46_, 0, none⟩))) (x_move rfl) ?_)
    refine S_list (T_callW (al := []) rfl rfl cb89 (Calls.into (n := 3) (al := []) Try.func89 rfl Try.ntmps89 rfl rfl ?_))
    refine C_seq (fun K52_ hK52_ => ?_)
    refine C_reg ?_
    refine S_list (T_val (v := (Value.nilIface)) (x_assign rfl) ?_)
    refine wpList_nil ?_
    refine (X_then (hK52_ _ _ ?_))
    clear hK52_
    refine C_seq (fun K53_ hK53_ => ?_)
    refine C_reg ?_
    refine S_list (T_val (v := (Value.agg #[(Value.int .i64 1), (Value.string (ByteArray.mk #[107, 101, 121])), (Value.bool true)])) (by kernel_rfl) ?_)
    refine S_list (T_val (v := (Value.iface 247 (Value.agg #[(Value.int .i64 1), (Value.string (ByteArray.mk #[107, 101, 121])), (Value.bool true)]))) (by kernel_rfl) ?_)
    refine S_list (T_val (v := (Value.iface 247 (Value.agg #[(Value.int .i64 1), (Value.string (ByteArray.mk #[107, 101, 121])), (Value.bool true)]))) (x_assign rfl) ?_)
    refine wpList_nil ?_
    refine (X_then (hK53_ _ _ ?_))
    clear hK53_
    refine C_ret ?_
    refine R_any (v := (Value.iface 247 (Value.agg #[(Value.int .i64 1), (Value.string (ByteArray.mk #[107, 101, 121])), (Value.bool true)]))) (run_results1 rfl rfl) ⟨_, rfl, ?_⟩
    have H55_ : Holds w47_ (ro R :: cl b46_ 244 [(Value.int .u32 0)] :: cl b38_ 150 [(Value.pointer none), (Value.int .i64 0), (Value.int .i64 0), (Value.map none)] :: mp K2 b3_ m :: F) := (Holds.bring H48_ 3 rfl)
    refine S_list (T_invoke (al := [(Value.agg #[(Value.int .i64 1), (Value.string (ByteArray.mk #[107, 101, 121])), (Value.bool true)])]) (pre := []) (F := cl b46_ 244 [(Value.int .u32 0)] :: cl b38_ 150 [(Value.pointer none), (Value.int .i64 0), (Value.int .i64 0), (Value.map none)] :: mp K2 b3_ m :: F) rfl (fun w => by kernel_rfl) rfl cb181 (hName R) H55_ ?_)
    rintro v54_ p59_ w56_ ⟨_, rfl, rfl⟩ S58_ H57_
    replace H57_ : Holds w56_ (ro R :: sl 5 1 v54_ (List.length ([107, 101, 121] : List Int)) (bytesV ([107, 101, 121] : List Int)) :: cl b46_ 244 [(Value.int .u32 0)] :: cl b38_ 150 [(Value.pointer none), (Value.int .i64 0), (Value.int .i64 0), (Value.map none)] :: mp K2 b3_ m :: F) := H57_
    have S60_ := Same.trans S50_ S58_
    refine S_list (T_call (al := [(Value.pointer (some ⟨b46_, 0, none⟩)), v54_]) (pre := [sl 5 1 v54_ (List.length ([107, 101, 121] : List Int)) (bytesV ([107, 101, 121] : List Int)), cl b46_ 244 [(Value.int .u32 0)]]) (F := cl b38_ 150 [(Value.pointer none), (Value.int .i64 0), (Value.int .i64 0), (Value.map none)] :: mp K2 b3_ m :: F) rfl rfl cb88 (Tri.lend (fun h0__ a0__ d0__ => wCrc (un R h0__) b46_ 0 v54_ [107, 101, 121] (RS.set_ (sl_RS a0__ (Sub.un_right d0__)) (by first | rfl | (simp [RW.cells, ZR.cells, RV.cells, MR.cells]; done)) (by first | rfl | omega | (simp; done) | (simp; omega))) (by decide))) H57_ ?_)
    rintro v61_ p65_ w62_ ⟨_, rfl, ⟨rfl, rfl⟩⟩ S64_ H63_
    replace H63_ : Holds w62_ (ro R :: sl 5 1 v54_ (List.length ([107, 101, 121] : List Int)) (bytesV ([107, 101, 121] : List Int)) :: cl b46_ 244 [(Value.int .u32 (crc 0 [107, 101, 121]))] :: cl b38_ 150 [(Value.pointer none), (Value.int .i64 0), (Value.int .i64 0), (Value.map none)] :: mp K2 b3_ m :: F) := H63_
    have S66_ := Same.trans S60_ S64_
    refine wpList_nil ?_
    refine (X_then (hK51_ _ _ ?_))
    clear hK51_
    refine C_seq (fun K67_ hK67_ => ?_)
    refine C_reg ?_
    refine S_list (T_val (v := (Value.pointer (some ⟨b46_, 0, none⟩))) (x_move rfl) ?_)
    refine S_list (T_val (v := (Value.int .i64 compact)) (x_move rfl) ?_)
    refine S_list (T_val (v := (Value.int .i64 rev)) (x_move rfl) ?_)
    refine S_list (T_val (v := (Value.map (some b3_))) (x_move rfl) ?_)
    refine S_list (T_val (v := (Value.agg #[(Value.pointer (some ⟨b46_, 0, none⟩)), (Value.int .i64 compact), (Value.int .i64 rev), (Value.map (some b3_))])) (by kernel_rfl) ?_)
    refine S_list0 (T_storeN (vs := [(Value.pointer (some ⟨b46_, 0, none⟩)), (Value.int .i64 compact), (Value.int .i64 rev), (Value.map (some b3_))]) rfl rfl z150 rfl (by simp [Value.oneCell']) H63_ 3 rfl (Nat.le_of_ble_eq_true (by rfl)) ?_)
    intro w68_ S70_ H69_
    replace H69_ : Holds w68_ (ro R :: sl 5 1 v54_ (List.length ([107, 101, 121] : List Int)) (bytesV ([107, 101, 121] : List Int)) :: cl b46_ 244 [(Value.int .u32 (crc 0 [107, 101, 121]))] :: cl b38_ 150 [(Value.pointer (some ⟨b46_, 0, none⟩)), (Value.int .i64 compact), (Value.int .i64 rev), (Value.map (some b3_))] :: mp K2 b3_ m :: F) := H69_
    have S71_ := Same.trans S66_ S70_
    refine wpList_nil ?_
    refine (X_then (hK67_ _ _ ?_))
    clear hK67_
    refine C_ret ?_
    refine R_any (v := (Value.agg #[(Value.pointer (some ⟨b46_, 0, none⟩)), (Value.int .i64 compact), (Value.int .i64 rev), (Value.map (some b3_))])) (run_results1 rfl ⟨_, rfl, load_resN Try.underlying150 rfl z150 rfl (vs := [(Value.pointer (some ⟨b46_, 0, none⟩)), (Value.int .i64 compact), (Value.int .i64 rev), (Value.map (some b3_))]) (Holds.cl_cells H69_ 3 rfl 0 rfl)⟩) ⟨_, rfl, ?_⟩
    refine S_list (T_alloc z150 H69_ ?_)
    intro b72_ w73_ S75_ H74_
    replace H74_ : Holds w73_ (cl b72_ 150 [(Value.pointer none), (Value.int .i64 0), (Value.int .i64 0), (Value.map none)] :: ro R :: sl 5 1 v54_ (List.length ([107, 101, 121] : List Int)) (bytesV ([107, 101, 121] : List Int)) :: cl b46_ 244 [(Value.int .u32 (crc 0 [107, 101, 121]))] :: cl b38_ 150 [(Value.pointer (some ⟨b46_, 0, none⟩)), (Value.int .i64 compact), (Value.int .i64 rev), (Value.map (some b3_))] :: mp K2 b3_ m :: F) := H74_
    have S76_ := Same.trans S71_ S75_
    refine S_list0 (T_storeN (vs := [(Value.pointer (some ⟨b46_, 0, none⟩)), (Value.int .i64 compact), (Value.int .i64 rev), (Value.map (some b3_))]) rfl rfl z150 rfl (by simp [Value.oneCell']) H74_ 0 rfl (Nat.le_of_ble_eq_true (by rfl)) ?_)
    intro w77_ S79_ H78_
    replace H78_ : Holds w77_ (cl b72_ 150 [(Value.pointer (some ⟨b46_, 0, none⟩)), (Value.int .i64 compact), (Value.int .i64 rev), (Value.map (some b3_))] :: ro R :: sl 5 1 v54_ (List.length ([107, 101, 121] : List Int)) (bytesV ([107, 101, 121] : List Int)) :: cl b46_ 244 [(Value.int .u32 (crc 0 [107, 101, 121]))] :: cl b38_ 150 [(Value.pointer (some ⟨b46_, 0, none⟩)), (Value.int .i64 compact), (Value.int .i64 rev), (Value.map (some b3_))] :: mp K2 b3_ m :: F) := H78_
    have S80_ := Same.trans S76_ S79_
    refine wpList_nil ?_
    refine (X_then (hK36_ _ _ ?_))
    clear hK36_
    refine C_seq (fun K81_ hK81_ => ?_)
    refine C_reg ?_
    refine S_list (T_val (v := vz) (x_move rfl) ?_)
    have H91_ : Holds w77_ (ro R :: cl b72_ 150 [(Value.pointer (some ⟨b46_, 0, none⟩)), (Value.int .i64 compact), (Value.int .i64 rev), (Value.map (some b3_))] :: sl 5 1 v54_ (List.length ([107, 101, 121] : List Int)) (bytesV ([107, 101, 121] : List Int)) :: cl b46_ 244 [(Value.int .u32 (crc 0 [107, 101, 121]))] :: cl b38_ 150 [(Value.pointer (some ⟨b46_, 0, none⟩)), (Value.int .i64 compact), (Value.int .i64 rev), (Value.map (some b3_))] :: mp K2 b3_ m :: F) := (Holds.bring H78_ 1 rfl)
    refine S_list (T_callG (al := [vz]) (pre := []) (F := cl b72_ 150 [(Value.pointer (some ⟨b46_, 0, none⟩)), (Value.int .i64 compact), (Value.int .i64 rev), (Value.map (some b3_))] :: sl 5 1 v54_ (List.length ([107, 101, 121] : List Int)) (bytesV ([107, 101, 121] : List Int)) :: cl b46_ 244 [(Value.int .u32 (crc 0 [107, 101, 121]))] :: cl b38_ 150 [(Value.pointer (some ⟨b46_, 0, none⟩)), (Value.int .i64 compact), (Value.int .i64 rev), (Value.map (some b3_))] :: mp K2 b3_ m :: F) rfl rfl cb68 (hRows R vz zs L hZs (ZipR.mono hZ (Sub.rfl' _)) (by first | assumption | omega) (fun x hx => (hS x hx).2.2.2.2)) H91_ ?_)
    rintro R83_ v84_ p95_ w92_ hs82_ ⟨v185_, v286_, ks87_, vs88_, rfl, rfl, he89_, he90_⟩ S94_ H93_
    replace H93_ : Holds w92_ (ro R83_ :: sl 43 1 v185_ (List.length ks87_) ks87_ :: sl 43 1 v286_ (List.length vs88_) vs88_ :: cl b72_ 150 [(Value.pointer (some ⟨b46_, 0, none⟩)), (Value.int .i64 compact), (Value.int .i64 rev), (Value.map (some b3_))] :: sl 5 1 v54_ (List.length ([107, 101, 121] : List Int)) (bytesV ([107, 101, 121] : List Int)) :: cl b46_ 244 [(Value.int .u32 (crc 0 [107, 101, 121]))] :: cl b38_ 150 [(Value.pointer (some ⟨b46_, 0, none⟩)), (Value.int .i64 compact), (Value.int .i64 rev), (Value.map (some b3_))] :: mp K2 b3_ m :: F) := H93_
    have S96_ := Same.trans S80_ S94_
    have hlk_ := (he89_).1
    rw [List.length_map] at hlk_
    have hlv_ := (he90_).1
    rw [List.length_map] at hlv_
    refine S_list (T_val (v := (Value.tuple #[v185_, v286_])) (x_move rfl) ?_)
    refine S_list (T_val (v := v185_) (by kernel_rfl) ?_)
    refine S_list (T_val (v := v286_) (by kernel_rfl) ?_)
    refine S_list (T_val (v := v185_) (x_assign rfl) ?_)
    refine S_list (T_val (v := v286_) (x_assign rfl) ?_)
    refine wpList_nil ?_
    refine (X_then (hK81_ _ _ ?_))
    clear hK81_
    refine C_seq (fun K97_ hK97_ => ?_)
    refine C_seq (fun K98_ hK98_ => ?_)
    refine C_reg ?_
    refine S_list (T_val (v := v185_) (x_move rfl) ?_)
    refine S_list (T_val (v := (Value.int .i64 ((List.length ks87_) : Int))) (x_lenSl rfl H93_ 1 rfl Try.underlying152) ?_)
    refine S_list (T_val (v := (Value.int .i64 0)) (x_move rfl) ?_)
    refine wpList_nil ?_
    refine (X_then (hK98_ _ _ ?_))
    clear hK98_
    refine C_block ?_
    have H99_ : Holds w92_ (ro R83_ :: sl 43 1 v185_ (List.length ks87_) ks87_ :: sl 43 1 v286_ (List.length vs88_) vs88_ :: cl b72_ 150 [(Value.pointer (some ⟨b46_, 0, none⟩)), (Value.int .i64 compact), (Value.int .i64 rev), (Value.map (some b3_))] :: sl 5 1 v54_ (List.length ([107, 101, 121] : List Int)) (bytesV ([107, 101, 121] : List Int)) :: cl b46_ 244 [(Value.int .u32 (hrows compact rev (K.map RV.pair) hzero (List.take 0 L)))] :: cl b38_ 150 [(Value.pointer (some ⟨b46_, 0, none⟩)), (Value.int .i64 compact), (Value.int .i64 rev), (Value.map (some b3_))] :: mp K2 b3_ m :: F) := cast1 (P := fun (c__ : List Value) => Holds w92_ (ro R83_ :: sl 43 1 v185_ (List.length ks87_) ks87_ :: sl 43 1 v286_ (List.length vs88_) vs88_ :: cl b72_ 150 [(Value.pointer (some ⟨b46_, 0, none⟩)), (Value.int .i64 compact), (Value.int .i64 rev), (Value.map (some b3_))] :: sl 5 1 v54_ (List.length ([107, 101, 121] : List Int)) (bytesV ([107, 101, 121] : List Int)) :: cl b46_ 244 c__ :: cl b38_ 150 [(Value.pointer (some ⟨b46_, 0, none⟩)), (Value.int .i64 compact), (Value.int .i64 rev), (Value.map (some b3_))] :: mp K2 b3_ m :: F)) ((lcons (congrArg (Value.int .u32) ((by rfl) : crc 0 [107, 101, 121] = hrows compact rev (K.map RV.pair) hzero (List.take 0 L))) rfl) : [(Value.int .u32 (crc 0 [107, 101, 121]))] = [(Value.int .u32 (hrows compact rev (K.map RV.pair) hzero (List.take 0 L)))]) H93_
    refine C_loop (γ := Nat) (fun k2 a__ w1__ => ∃ h : Env, a__ = mkA 53 (upd (upd (upd (upd (upd (upd h 8 (Value.int .u32 0)) 12 (Value.pointer (some ⟨b72_, 0, none⟩))) 13 v185_) 14 v286_) 37 (Value.int .i64 ((List.length ks87_) : Int))) 38 (Value.int .i64 (k2 : Int))) [] ∧ Holds w1__ (ro R83_ :: sl 43 1 v185_ (List.length ks87_) ks87_ :: sl 43 1 v286_ (List.length vs88_) vs88_ :: cl b72_ 150 [(Value.pointer (some ⟨b46_, 0, none⟩)), (Value.int .i64 compact), (Value.int .i64 rev), (Value.map (some b3_))] :: sl 5 1 v54_ (List.length ([107, 101, 121] : List Int)) (bytesV ([107, 101, 121] : List Int)) :: cl b46_ 244 [(Value.int .u32 (hrows compact rev (K.map RV.pair) hzero (List.take k2 L)))] :: cl b38_ 150 [(Value.pointer (some ⟨b46_, 0, none⟩)), (Value.int .i64 compact), (Value.int .i64 rev), (Value.map (some b3_))] :: mp K2 b3_ m :: F) ∧ Same w w1__ ∧ (k2 ≤ L.length)) (fun k2 => L.length - k2) (0) ⟨_, congrArg (fun e => mkA 53 e []) (ch (ch (ch (ch (ch (ch rfl rfl) rfl) rfl) rfl) rfl) (congrArg (Value.int .i64) ((by first | rfl | omega | (simp; done) | (simp; omega)) : 0 = (0 : Int)))), H99_, S96_, (by first | assumption | omega | exact rfl)⟩ ?_
    rintro k2 _ w100_ ⟨h, rfl, H101_, S102_, hk2⟩
    refine C_seq (fun K103_ hK103_ => ?_)
    refine C_reg ?_
    refine S_list (T_val (v := (Value.bool (decide ((k2 : Int) < ((List.length ks87_) : Int))))) (x_bin rfl rfl rfl) ?_)
    refine wpList_nil ?_
    refine (X_then (hK103_ _ _ ?_))
    clear hK103_
    refine C_seq (fun K104_ hK104_ => ?_)
    refine C_cond (b := decide ((k2 : Int) < ((List.length ks87_) : Int))) rfl (fun c105_t => ?_) (fun c105_f => ?_)
    · have c105_tp : (k2 : Int) < ((List.length ks87_) : Int) := of_decide_eq_true c105_t
      refine C_skip (X_then (hK104_ _ _ ?_))
      clear hK104_
      refine C_seq (fun K106_ hK106_ => ?_)
      refine C_block ?_
      refine C_seq (fun K107_ hK107_ => ?_)
      refine C_reg ?_
      refine S_list (T_val (v := (Value.int .i64 (k2 : Int))) (x_move rfl) ?_)
      refine S_list (T_val (v := (Value.int .i64 (k2 : Int))) (x_assign rfl) ?_)
      refine wpList_nil ?_
      refine (X_then (hK107_ _ _ ?_))
      clear hK107_
      refine A_start (S := fun w => SlRd v185_ ks87_ w ∧ SlRd v286_ vs88_ w ∧ Rd b72_ [(Value.pointer (some ⟨b46_, 0, none⟩)), (Value.int .i64 compact), (Value.int .i64 rev), (Value.map (some b3_))] w ∧ SlRd v54_ (bytesV ([107, 101, 121] : List Int)) w ∧ MpRd K2 b3_ m w ∧ Sub R83_ (hp w)) (N := 9) foll rfl rfl ?_
      have H108_ : Holds w100_.drew (ro R83_ :: sl 43 1 v185_ (List.length ks87_) ks87_ :: sl 43 1 v286_ (List.length vs88_) vs88_ :: cl b72_ 150 [(Value.pointer (some ⟨b46_, 0, none⟩)), (Value.int .i64 compact), (Value.int .i64 rev), (Value.map (some b3_))] :: sl 5 1 v54_ (List.length ([107, 101, 121] : List Int)) (bytesV ([107, 101, 121] : List Int)) :: cl b46_ 244 [(Value.int .u32 (hrows compact rev (K.map RV.pair) hzero (List.take k2 L)))] :: cl b38_ 150 [(Value.pointer (some ⟨b46_, 0, none⟩)), (Value.int .i64 compact), (Value.int .i64 rev), (Value.map (some b3_))] :: mp K2 b3_ m :: F) := H101_
      have hq109_ := And.intro (Holds.slrd H108_ 1 rfl) (And.intro (Holds.slrd H108_ 2 rfl) (And.intro (Holds.rd H108_ 3 rfl) (And.intro (Holds.slrd H108_ 4 rfl) (And.intro (Holds.mprd H108_ 7 rfl) ((Holds.ro_at H108_ 0 rfl))))))
      refine A_tk 0 (v := v185_) rfl (by kernel_rfl) (fun w hS => x_move rfl) hq109_ ?_
      refine A_tk 1 (v := (Value.int .i64 (k2 : Int))) rfl (by kernel_rfl) (fun w hS => x_move rfl) hq109_ ?_
      have hr110_ := Holds.sl_RSw H108_ 1 rfl
      refine A_tk 2 (v := (Value.pointer (some ⟨(sb v185_), so v185_ + k2, none⟩))) rfl (by kernel_rfl) (fun w hS => x_idxSlR (v := v185_) rfl hr110_ rfl Try.underlying152 z43 (by omega) (by omega) (by omega : _ = k2) (by rw [Nat.mul_one])) hq109_ ?_
      obtain ⟨x111_, hx112_, hm_x111_⟩ := elem_at L k2 (by omega)
      obtain ⟨hx1_, hx2_, hx3_, hx4_, hx56_⟩ := hS x111_ hm_x111_
      have hvb_ := vb_len hx56_
      have hkb_ := kb_len x111_
      obtain ⟨kv113_, hx114_, hr115_⟩ := Bts.at_ he89_ hx112_
      refine A_tk 3 (v := kv113_) rfl (by kernel_rfl) (fun w hS => x_load1 rfl Try.underlying43 rfl (hS.1 _ _ (hx114_))) hq109_ ?_
      refine A_tk 4 (v := v286_) rfl (by kernel_rfl) (fun w hS => x_move rfl) hq109_ ?_
      refine A_tk 5 (v := (Value.int .i64 (k2 : Int))) rfl (by kernel_rfl) (fun w hS => x_move rfl) hq109_ ?_
      have hr116_ := Holds.sl_RSw H108_ 2 rfl
      refine A_tk 6 (v := (Value.pointer (some ⟨(sb v286_), so v286_ + k2, none⟩))) rfl (by kernel_rfl) (fun w hS => x_idxSlR (v := v286_) rfl hr116_ rfl Try.underlying152 z43 (by omega) (by omega) (by omega : _ = k2) (by rw [Nat.mul_one])) hq109_ ?_
      obtain ⟨kv117_, hx118_, hr119_⟩ := Bts.at_ he90_ hx112_
      refine A_tk 7 (v := kv117_) rfl (by kernel_rfl) (fun w hS => x_load1 rfl Try.underlying43 rfl (hS.2.1 _ _ (hx118_))) hq109_ ?_
      refine A_ready (i := 8) (rs := []) (by kernel_rfl) ?_
      refine AllR.cons ?_ AllR.nil
      have H121_ : Holds w100_.drew (ro R83_ :: cl b72_ 150 [(Value.pointer (some ⟨b46_, 0, none⟩)), (Value.int .i64 compact), (Value.int .i64 rev), (Value.map (some b3_))] :: cl b46_ 244 [(Value.int .u32 (hrows compact rev (K.map RV.pair) hzero (List.take k2 L)))] :: mp K2 b3_ m :: sl 43 1 v185_ (List.length ks87_) ks87_ :: sl 43 1 v286_ (List.length vs88_) vs88_ :: sl 5 1 v54_ (List.length ([107, 101, 121] : List Int)) (bytesV ([107, 101, 121] : List Int)) :: cl b38_ 150 [(Value.pointer (some ⟨b46_, 0, none⟩)), (Value.int .i64 compact), (Value.int .i64 rev), (Value.map (some b3_))] :: F) := (Holds.bring (Holds.bring (Holds.bring (Holds.bring H108_ 7 rfl) 6 rfl) 5 rfl) 3 rfl)
      refine A_op (ls' := #[true, true, true, true, true, true, true, true, true]) rfl (by kernel_rfl) (T_call (al := [(Value.pointer (some ⟨b72_, 0, none⟩)), kv113_, kv117_]) (pre := [cl b72_ 150 [(Value.pointer (some ⟨b46_, 0, none⟩)), (Value.int .i64 compact), (Value.int .i64 rev), (Value.map (some b3_))], cl b46_ 244 [(Value.int .u32 (hrows compact rev (K.map RV.pair) hzero (List.take k2 L)))], mp K2 b3_ m]) (F := sl 43 1 v185_ (List.length ks87_) ks87_ :: sl 43 1 v286_ (List.length vs88_) vs88_ :: sl 5 1 v54_ (List.length ([107, 101, 121] : List Int)) (bytesV ([107, 101, 121] : List Int)) :: cl b38_ 150 [(Value.pointer (some ⟨b46_, 0, none⟩)), (Value.int .i64 compact), (Value.int .i64 rev), (Value.map (some b3_))] :: F) rfl rfl cb69 (hWrite R83_ b72_ b46_ b3_ (hrows compact rev (K.map RV.pair) hzero (List.take k2 L)) compact rev kv113_ kv117_ m (K.map RV.pair) x111_ hr115_ hr119_ (by have h_ := hmk; rw [List.take_of_length_le (by omega)] at h_; exact h_) (by first | assumption | omega) (by first | assumption | omega) (by first | assumption | omega) (by first | assumption | omega) (by first | assumption | omega) (by first | assumption | omega) (by first | assumption | omega) (by first | assumption | omega) (by first | assumption | omega) (by first | assumption | omega)) H121_ ?_)
      rintro v120_ p125_ w122_ ⟨rfl, rfl⟩ S124_ H123_
      replace H123_ : Holds w122_ (ro R83_ :: cl b72_ 150 [(Value.pointer (some ⟨b46_, 0, none⟩)), (Value.int .i64 compact), (Value.int .i64 rev), (Value.map (some b3_))] :: cl b46_ 244 [(Value.int .u32 (hstep compact rev (K.map RV.pair) (hrows compact rev (K.map RV.pair) hzero (List.take k2 L)) x111_))] :: mp K2 b3_ m :: sl 43 1 v185_ (List.length ks87_) ks87_ :: sl 43 1 v286_ (List.length vs88_) vs88_ :: sl 5 1 v54_ (List.length ([107, 101, 121] : List Int)) (bytesV ([107, 101, 121] : List Int)) :: cl b38_ 150 [(Value.pointer (some ⟨b46_, 0, none⟩)), (Value.int .i64 compact), (Value.int .i64 rev), (Value.map (some b3_))] :: F) := H123_
      have S126_ := Same.trans (Same.trans S102_ (Same.drew _)) S124_
      refine ⟨⟨Holds.slrd H123_ 4 rfl, Holds.slrd H123_ 5 rfl, Holds.rd H123_ 1 rfl, Holds.slrd H123_ 6 rfl, Holds.mprd H123_ 3 rfl, (Holds.ro_at H123_ 0 rfl)⟩, ?_⟩
      refine A_done (by kernel_rfl) ?_
      refine (X_blkN (X_then (hK106_ _ _ ?_)))
      clear hK106_
      refine C_reg ?_
      refine S_list (T_val (v := (Value.int .i64 ((k2 : Int) + 1))) (x_bin rfl rfl (ib_add (IntWalk.i64_in _ (by omega)))) ?_)
      refine S_list (T_val (v := (Value.int .i64 ((k2 : Int) + 1))) (x_move rfl) ?_)
      refine wpList_nil ?_
      refine (X_then ?_)
      have H127_ : Holds w122_ (ro R83_ :: cl b72_ 150 [(Value.pointer (some ⟨b46_, 0, none⟩)), (Value.int .i64 compact), (Value.int .i64 rev), (Value.map (some b3_))] :: cl b46_ 244 [(Value.int .u32 (hrows compact rev (K.map RV.pair) hzero (List.take (k2 + 1) L)))] :: mp K2 b3_ m :: sl 43 1 v185_ (List.length ks87_) ks87_ :: sl 43 1 v286_ (List.length vs88_) vs88_ :: sl 5 1 v54_ (List.length ([107, 101, 121] : List Int)) (bytesV ([107, 101, 121] : List Int)) :: cl b38_ 150 [(Value.pointer (some ⟨b46_, 0, none⟩)), (Value.int .i64 compact), (Value.int .i64 rev), (Value.map (some b3_))] :: F) := cast1 (P := fun (c__ : List Value) => Holds w122_ (ro R83_ :: cl b72_ 150 [(Value.pointer (some ⟨b46_, 0, none⟩)), (Value.int .i64 compact), (Value.int .i64 rev), (Value.map (some b3_))] :: cl b46_ 244 c__ :: mp K2 b3_ m :: sl 43 1 v185_ (List.length ks87_) ks87_ :: sl 43 1 v286_ (List.length vs88_) vs88_ :: sl 5 1 v54_ (List.length ([107, 101, 121] : List Int)) (bytesV ([107, 101, 121] : List Int)) :: cl b38_ 150 [(Value.pointer (some ⟨b46_, 0, none⟩)), (Value.int .i64 compact), (Value.int .i64 rev), (Value.map (some b3_))] :: F)) ((lcons (congrArg (Value.int .u32) ((by rw [hrows_take hx112_]) : hstep compact rev (K.map RV.pair) (hrows compact rev (K.map RV.pair) hzero (List.take k2 L)) x111_ = hrows compact rev (K.map RV.pair) hzero (List.take (k2 + 1) L))) rfl) : [(Value.int .u32 (hstep compact rev (K.map RV.pair) (hrows compact rev (K.map RV.pair) hzero (List.take k2 L)) x111_))] = [(Value.int .u32 (hrows compact rev (K.map RV.pair) hzero (List.take (k2 + 1) L)))]) H123_
      have H128_ : Holds w122_ (ro R83_ :: sl 43 1 v185_ (List.length ks87_) ks87_ :: sl 43 1 v286_ (List.length vs88_) vs88_ :: cl b72_ 150 [(Value.pointer (some ⟨b46_, 0, none⟩)), (Value.int .i64 compact), (Value.int .i64 rev), (Value.map (some b3_))] :: sl 5 1 v54_ (List.length ([107, 101, 121] : List Int)) (bytesV ([107, 101, 121] : List Int)) :: cl b46_ 244 [(Value.int .u32 (hrows compact rev (K.map RV.pair) hzero (List.take (k2 + 1) L)))] :: cl b38_ 150 [(Value.pointer (some ⟨b46_, 0, none⟩)), (Value.int .i64 compact), (Value.int .i64 rev), (Value.map (some b3_))] :: mp K2 b3_ m :: F) := (Holds.bring (Holds.bring (Holds.bring (Holds.bring (Holds.bring (Holds.bring (Holds.bring (Holds.bring H127_ 3 rfl) 7 rfl) 4 rfl) 7 rfl) 5 rfl) 7 rfl) 7 rfl) 7 rfl)
      exact ⟨(k2 + 1), ⟨_, congrArg (fun e => mkA 53 e []) (ch (ch (ch (ch (ch (ch rfl rfl) rfl) rfl) rfl) rfl) (congrArg (Value.int .i64) ((by first | rfl | omega | (simp; done) | (simp; omega)) : (k2 : Int) + 1 = ((k2 + 1 : Nat) : Int)))), H128_, S126_, (by first | assumption | omega | exact rfl)⟩, by first | omega | (dsimp only; omega) | (simp; omega)⟩
    · have c105_fp : ¬ ((k2 : Int) < ((List.length ks87_) : Int)) := of_decide_eq_false c105_f
      refine C_exit (X_thenX (X_thenX (X_blkHit ?_)))
      refine (X_then (hK97_ _ _ ?_))
      clear hK97_
      refine C_seq (fun K129_ hK129_ => ?_)
      refine C_reg ?_
      refine S_list (T_callW (al := [(Value.pointer (some ⟨b72_, 0, none⟩))]) rfl rfl cb70 (Calls.into (n := 17) (al := [(Value.pointer (some ⟨b72_, 0, none⟩))]) Try.func70 rfl Try.ntmps70 rfl rfl ?_))
      refine C_seq (fun K130_ hK130_ => ?_)
      refine C_reg ?_
      refine S_list (T_alloc z157 H101_ ?_)
      intro b131_ w132_ S134_ H133_
      replace H133_ : Holds w132_ (cl b131_ 157 [(Value.int .u32 0), (Value.int .i64 0), (Value.int .i64 0)] :: ro R83_ :: sl 43 1 v185_ (List.length ks87_) ks87_ :: sl 43 1 v286_ (List.length vs88_) vs88_ :: cl b72_ 150 [(Value.pointer (some ⟨b46_, 0, none⟩)), (Value.int .i64 compact), (Value.int .i64 rev), (Value.map (some b3_))] :: sl 5 1 v54_ (List.length ([107, 101, 121] : List Int)) (bytesV ([107, 101, 121] : List Int)) :: cl b46_ 244 [(Value.int .u32 (hrows compact rev (K.map RV.pair) hzero (List.take k2 L)))] :: cl b38_ 150 [(Value.pointer (some ⟨b46_, 0, none⟩)), (Value.int .i64 compact), (Value.int .i64 rev), (Value.map (some b3_))] :: mp K2 b3_ m :: F) := H133_
      have S135_ := Same.trans S102_ S134_
      refine wpList_nil ?_
      refine (X_then (hK130_ _ _ ?_))
      clear hK130_
      refine C_seq (fun K136_ hK136_ => ?_)
      refine A_start (S := fun w => SlRd v185_ ks87_ w ∧ SlRd v286_ vs88_ w ∧ Rd b72_ [(Value.pointer (some ⟨b46_, 0, none⟩)), (Value.int .i64 compact), (Value.int .i64 rev), (Value.map (some b3_))] w ∧ SlRd v54_ (bytesV ([107, 101, 121] : List Int)) w ∧ Rd b46_ [(Value.int .u32 (hrows compact rev (K.map RV.pair) hzero (List.take k2 L)))] w ∧ MpRd K2 b3_ m w ∧ Sub R83_ (hp w)) (N := 15) foll rfl rfl ?_
      have H137_ : Holds w132_.drew (cl b131_ 157 [(Value.int .u32 0), (Value.int .i64 0), (Value.int .i64 0)] :: ro R83_ :: sl 43 1 v185_ (List.length ks87_) ks87_ :: sl 43 1 v286_ (List.length vs88_) vs88_ :: cl b72_ 150 [(Value.pointer (some ⟨b46_, 0, none⟩)), (Value.int .i64 compact), (Value.int .i64 rev), (Value.map (some b3_))] :: sl 5 1 v54_ (List.length ([107, 101, 121] : List Int)) (bytesV ([107, 101, 121] : List Int)) :: cl b46_ 244 [(Value.int .u32 (hrows compact rev (K.map RV.pair) hzero (List.take k2 L)))] :: cl b38_ 150 [(Value.pointer (some ⟨b46_, 0, none⟩)), (Value.int .i64 compact), (Value.int .i64 rev), (Value.map (some b3_))] :: mp K2 b3_ m :: F) := H133_
      have hq138_ := And.intro (Holds.slrd H137_ 2 rfl) (And.intro (Holds.slrd H137_ 3 rfl) (And.intro (Holds.rd H137_ 4 rfl) (And.intro (Holds.slrd H137_ 5 rfl) (And.intro (Holds.rd H137_ 6 rfl) (And.intro (Holds.mprd H137_ 8 rfl) ((Holds.ro_at H137_ 1 rfl)))))))
      refine A_tk 0 (v := (Value.pointer (some ⟨b72_, 0, none⟩))) rfl (by kernel_rfl) (fun w hS => x_move rfl) hq138_ ?_
      refine A_tk 1 (v := (Value.pointer (some ⟨b72_, 0, none⟩))) rfl (by kernel_rfl) (fun w hS => by kernel_rfl) hq138_ ?_
      refine A_tk 2 (v := (Value.pointer (some ⟨b72_, 0, none⟩))) rfl (by kernel_rfl) (fun w hS => by kernel_rfl) hq138_ ?_
      refine A_tk 3 (v := (Value.pointer (some ⟨b46_, 0, none⟩))) rfl (by kernel_rfl) (fun w hS => x_load1 rfl Try.underlying148 rfl (hS.2.2.1 0 (Value.pointer (some ⟨b46_, 0, none⟩)) rfl)) hq138_ ?_
      refine A_tk 5 (v := (Value.pointer (some ⟨b72_, 0, none⟩))) rfl (by kernel_rfl) (fun w hS => x_move rfl) hq138_ ?_
      refine A_tk 6 (v := (Value.pointer (some ⟨b72_, 0, none⟩))) rfl (by kernel_rfl) (fun w hS => by kernel_rfl) hq138_ ?_
      refine A_tk 7 (v := (Value.pointer (some ⟨b72_, 1, none⟩))) rfl (by kernel_rfl) (fun w hS => by kernel_rfl) hq138_ ?_
      refine A_tk 8 (v := (Value.int .i64 compact)) rfl (by kernel_rfl) (fun w hS => x_load1 rfl Try.underlying2 rfl (hS.2.2.1 1 (Value.int .i64 compact) rfl)) hq138_ ?_
      refine A_tk 9 (v := (Value.pointer (some ⟨b72_, 0, none⟩))) rfl (by kernel_rfl) (fun w hS => x_move rfl) hq138_ ?_
      refine A_tk 10 (v := (Value.pointer (some ⟨b72_, 0, none⟩))) rfl (by kernel_rfl) (fun w hS => by kernel_rfl) hq138_ ?_
      refine A_tk 11 (v := (Value.pointer (some ⟨b72_, 2, none⟩))) rfl (by kernel_rfl) (fun w hS => by kernel_rfl) hq138_ ?_
      refine A_tk 12 (v := (Value.int .i64 rev)) rfl (by kernel_rfl) (fun w hS => x_load1 rfl Try.underlying2 rfl (hS.2.2.1 2 (Value.int .i64 rev) rfl)) hq138_ ?_
      refine A_ready (i := 4) (rs := []) (by kernel_rfl) ?_
      refine AllR.cons ?_ AllR.nil
      refine A_op (ls' := #[true, true, true, true, true, true, true, true, true, true, true, true, true, false, false]) rfl (by kernel_rfl) (T_callW (al := [(Value.pointer (some ⟨b46_, 0, none⟩))]) rfl rfl cb96 (Calls.into (n := 7) (al := [(Value.pointer (some ⟨b46_, 0, none⟩))]) Try.func96 rfl Try.ntmps96 rfl rfl ?_))
      refine C_seq (fun K139_ hK139_ => ?_)
      refine C_reg ?_
      refine S_list (T_val (v := (Value.int .u32 0)) (x_assign rfl) ?_)
      refine wpList_nil ?_
      refine (X_then (hK139_ _ _ ?_))
      clear hK139_
      refine C_seq (fun K140_ hK140_ => ?_)
      refine C_reg ?_
      refine S_list (T_val (v := (Value.pointer (some ⟨b46_, 0, none⟩))) (x_move rfl) ?_)
      refine S_list (T_val (v := (Value.pointer (some ⟨b46_, 0, none⟩))) (by kernel_rfl) ?_)
      refine S_list (T_val (v := (Value.pointer (some ⟨b46_, 0, none⟩))) (by kernel_rfl) ?_)
      refine S_list (T_val (v := (Value.int .u32 (hrows compact rev (K.map RV.pair) hzero (List.take k2 L)))) (x_load1 rfl Try.underlying46 rfl ((Holds.rd H137_ 6 rfl) 0 (Value.int .u32 (hrows compact rev (K.map RV.pair) hzero (List.take k2 L))) rfl)) ?_)
      refine S_list (T_val (v := (Value.int .u32 (hrows compact rev (K.map RV.pair) hzero (List.take k2 L)))) (x_assign rfl) ?_)
      refine wpList_nil ?_
      refine (X_then (hK140_ _ _ ?_))
      clear hK140_
      refine C_ret ?_
      refine R_any (v := (Value.int .u32 (hrows compact rev (K.map RV.pair) hzero (List.take k2 L)))) (run_results1 rfl rfl) ⟨_, rfl, ?_⟩
      refine ⟨⟨Holds.slrd H137_ 2 rfl, Holds.slrd H137_ 3 rfl, Holds.rd H137_ 4 rfl, Holds.slrd H137_ 5 rfl, Holds.rd H137_ 6 rfl, Holds.mprd H137_ 8 rfl, (Holds.ro_at H137_ 1 rfl)⟩, ?_⟩
      refine A_tk 13 (v := (Value.agg #[(Value.int .u32 (hrows compact rev (K.map RV.pair) hzero (List.take k2 L))), (Value.int .i64 compact), (Value.int .i64 rev)])) rfl (by kernel_rfl) (fun w hS => by kernel_rfl) hq138_ ?_
      refine A_ready (i := 14) (rs := []) (by kernel_rfl) ?_
      refine AllR.cons ?_ AllR.nil
      refine A_op0 (ls' := #[true, true, true, true, true, true, true, true, true, true, true, true, true, true, true]) rfl (by kernel_rfl) (T_storeN (vs := [(Value.int .u32 (hrows compact rev (K.map RV.pair) hzero (List.take k2 L))), (Value.int .i64 compact), (Value.int .i64 rev)]) rfl rfl z157 rfl (by simp [Value.oneCell']) H137_ 0 rfl (Nat.le_of_ble_eq_true (by rfl)) ?_)
      intro w141_ S143_ H142_
      replace H142_ : Holds w141_ (cl b131_ 157 [(Value.int .u32 (hrows compact rev (K.map RV.pair) hzero (List.take k2 L))), (Value.int .i64 compact), (Value.int .i64 rev)] :: ro R83_ :: sl 43 1 v185_ (List.length ks87_) ks87_ :: sl 43 1 v286_ (List.length vs88_) vs88_ :: cl b72_ 150 [(Value.pointer (some ⟨b46_, 0, none⟩)), (Value.int .i64 compact), (Value.int .i64 rev), (Value.map (some b3_))] :: sl 5 1 v54_ (List.length ([107, 101, 121] : List Int)) (bytesV ([107, 101, 121] : List Int)) :: cl b46_ 244 [(Value.int .u32 (hrows compact rev (K.map RV.pair) hzero (List.take k2 L)))] :: cl b38_ 150 [(Value.pointer (some ⟨b46_, 0, none⟩)), (Value.int .i64 compact), (Value.int .i64 rev), (Value.map (some b3_))] :: mp K2 b3_ m :: F) := H142_
      have S144_ := Same.trans (Same.trans S135_ (Same.drew _)) S143_
      refine ⟨⟨Holds.slrd H142_ 2 rfl, Holds.slrd H142_ 3 rfl, Holds.rd H142_ 4 rfl, Holds.slrd H142_ 5 rfl, Holds.rd H142_ 6 rfl, Holds.mprd H142_ 8 rfl, (Holds.ro_at H142_ 1 rfl)⟩, ?_⟩
      refine A_done (by kernel_rfl) ?_
      refine (X_then (hK136_ _ _ ?_))
      clear hK136_
      refine C_ret ?_
      refine R_any (v := (Value.agg #[(Value.int .u32 (hrows compact rev (K.map RV.pair) hzero (List.take k2 L))), (Value.int .i64 compact), (Value.int .i64 rev)])) (run_results1 rfl ⟨_, rfl, load_resN Try.underlying157 rfl z157 rfl (vs := [(Value.int .u32 (hrows compact rev (K.map RV.pair) hzero (List.take k2 L))), (Value.int .i64 compact), (Value.int .i64 rev)]) (Holds.cl_cells H142_ 0 rfl 0 rfl)⟩) ⟨_, rfl, ?_⟩
      refine S_list (T_val (v := (Value.int .u32 (hrows compact rev (K.map RV.pair) hzero (List.take k2 L)))) (by kernel_rfl) ?_)
      refine S_list (T_val (v := (Value.int .u32 (hrows compact rev (K.map RV.pair) hzero (List.take k2 L)))) (x_assign rfl) ?_)
      refine wpList_nil ?_
      refine (X_then (hK129_ _ _ ?_))
      clear hK129_
      refine C_ret ?_
      refine R_any (v := (Value.int .u32 (hrows compact rev (K.map RV.pair) hzero (List.take k2 L)))) (run_results1 rfl rfl) ?_
      have H145_ : Holds w141_ (ro R83_ :: cl b131_ 157 [(Value.int .u32 (hrows compact rev (K.map RV.pair) hzero (List.take k2 L))), (Value.int .i64 compact), (Value.int .i64 rev)] :: sl 43 1 v185_ (List.length ks87_) ks87_ :: sl 43 1 v286_ (List.length vs88_) vs88_ :: cl b72_ 150 [(Value.pointer (some ⟨b46_, 0, none⟩)), (Value.int .i64 compact), (Value.int .i64 rev), (Value.map (some b3_))] :: sl 5 1 v54_ (List.length ([107, 101, 121] : List Int)) (bytesV ([107, 101, 121] : List Int)) :: cl b46_ 244 [(Value.int .u32 (hrows compact rev (K.map RV.pair) hzero (List.take k2 L)))] :: cl b38_ 150 [(Value.pointer (some ⟨b46_, 0, none⟩)), (Value.int .i64 compact), (Value.int .i64 rev), (Value.map (some b3_))] :: mp K2 b3_ m :: F) := (Holds.bring H142_ 1 rfl)
      have H146_ : Holds w141_ (ro R :: cl b131_ 157 [(Value.int .u32 (hrows compact rev (K.map RV.pair) hzero (List.take k2 L))), (Value.int .i64 compact), (Value.int .i64 rev)] :: sl 43 1 v185_ (List.length ks87_) ks87_ :: sl 43 1 v286_ (List.length vs88_) vs88_ :: cl b72_ 150 [(Value.pointer (some ⟨b46_, 0, none⟩)), (Value.int .i64 compact), (Value.int .i64 rev), (Value.map (some b3_))] :: sl 5 1 v54_ (List.length ([107, 101, 121] : List Int)) (bytesV ([107, 101, 121] : List Int)) :: cl b46_ 244 [(Value.int .u32 (hrows compact rev (K.map RV.pair) hzero (List.take k2 L)))] :: cl b38_ 150 [(Value.pointer (some ⟨b46_, 0, none⟩)), (Value.int .i64 compact), (Value.int .i64 rev), (Value.map (some b3_))] :: mp K2 b3_ m :: F) := Holds.ro_less H145_ hs82_
      have H147_ : Holds w141_ (ro R :: F) := (Holds.erase (Holds.erase (Holds.erase (Holds.erase (Holds.erase (Holds.erase (Holds.erase (Holds.erase (Holds.bring H146_ 0 rfl) 1) 1) 1) 1) 1) 1) 1) 1)
      exact ⟨_, [], rfl, ⟨(congrArg (Value.int .u32) ((by unfold hash; rw [List.take_of_length_le (by omega)]) : hrows compact rev (K.map RV.pair) hzero (List.take k2 L) = hash compact rev K L)), rfl⟩, S144_, H147_⟩
end Go.Proofs.Ytgeggiebefonhaa
