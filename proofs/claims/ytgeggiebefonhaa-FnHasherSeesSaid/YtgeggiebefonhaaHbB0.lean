/- Rows become bytes. -/
import Derived.Test.YtgeggiebefonhaaHbA0
set_option linter.unusedVariables false
set_option linter.unusedSimpArgs false
namespace Go.Proofs.Ytgeggiebefonhaa
open Go Go.RowKit Gw

theorem ZipR.at_ {R : HP} {zs : List ZR} {l : List RW} {k : Nat} (h : ZipR R zs l) (hk : k < zs.length) : ∃ x b kv vv, l[k]? = some x ∧ zs[k]? = some (ZRof x b) ∧ KVat R b kv vv x := by
  have hl : k < l.length := by rw [← h.1]; exact hk
  obtain ⟨b, kv, vv, h1, h2⟩ := h.2 k l[k] (List.getElem?_eq_getElem hl)
  exact ⟨_, b, kv, vv, List.getElem?_eq_getElem hl, h1, h2⟩

set_option maxHeartbeats 400000 in
theorem hRows (R : HP) (v : Value) (zs : List ZR) (L : List RW) (hZs : RS R 4 v zs.length (zs.flatMap ZR.cells)) (hZ : ZipR R zs L) (hl : zs.length ≤ 1000) (hS : ∀ x ∈ L, x.kV_Key.size ≤ 100 ∧ x.kV_Value.size ≤ 100) :
    TriG Try.prog 68 #[v] R [] (fun R' v__ post__ => ∃ (v1 v2 : Value) (ks vs : List Value), v__ = (Value.tuple #[v1, v2]) ∧ post__ = [sl 43 1 v1 (List.length ks) ks, sl 43 1 v2 (List.length vs) vs] ∧ (Bts R' ks (L.map RW.kb)) ∧ (Bts R' vs (L.map RW.vb))) := by
  refine TriG.into (n := 37) (al := [v]) Try.func68 rfl Try.ntmps68 rfl rfl fun w F H => ?_
  replace H : Holds w (ro R :: F) := H
  refine C_seq (fun K1_ hK1_ => ?_)
  refine C_reg ?_
  refine S_list (T_val (v := (Value.slice none 0 0)) (x_assign rfl) ?_)
  refine S_list (T_val (v := (Value.slice none 0 0)) (x_assign rfl) ?_)
  refine wpList_nil ?_
  refine (X_then (hK1_ _ _ ?_))
  clear hK1_
  refine C_seq (fun K2_ hK2_ => ?_)
  refine C_reg ?_
  refine S_list (T_val (v := (Value.slice none 0 0)) (x_assign rfl) ?_)
  refine S_list (T_val (v := (Value.slice none 0 0)) (x_assign rfl) ?_)
  refine wpList_nil ?_
  refine (X_then (hK2_ _ _ ?_))
  clear hK2_
  refine C_seq (fun K3_ hK3_ => ?_)
  refine C_seq (fun K4_ hK4_ => ?_)
  refine C_reg ?_
  refine S_list (T_val (v := v) (x_move rfl) ?_)
  refine S_list (T_val (v := (Value.int .i64 (zs.length : Int))) (x_lenRS rfl hZs Try.underlying92) ?_)
  refine S_list (T_val (v := (Value.int .i64 0)) (x_move rfl) ?_)
  refine wpList_nil ?_
  refine (X_then (hK4_ _ _ ?_))
  clear hK4_
  refine C_block ?_
  have H5_ : Holds w (sl 43 1 (Value.slice none 0 0) (List.length ([] : List Value)) ([] : List Value) :: ro R :: F) := Holds.add_nil H 43 1
  have H6_ : Holds w (sl 43 1 (Value.slice none 0 0) (List.length ([] : List Value)) ([] : List Value) :: sl 43 1 (Value.slice none 0 0) (List.length ([] : List Value)) ([] : List Value) :: ro R :: F) := Holds.add_nil H5_ 43 1
  refine C_loop (γ := HP × Nat × Value × Value × (List Value) × (List Value)) (fun x__ a__ w1__ => match x__ with | ⟨R1, k, v1, v2, ks, vs⟩ => ∃ h : Env, a__ = mkA 37 (upd (upd (upd (upd (upd (upd (upd h 2 (Value.slice none 0 0)) 3 (Value.slice none 0 0)) 4 v1) 5 v2) 10 v) 11 (Value.int .i64 (zs.length : Int))) 12 (Value.int .i64 (k : Int))) [] ∧ Holds w1__ (sl 43 1 v1 (List.length ks) ks :: sl 43 1 v2 (List.length vs) vs :: ro R1 :: F) ∧ Same w w1__ ∧ (Sub R R1) ∧ (k ≤ zs.length) ∧ (Bts R1 ks ((List.take k L).map RW.kb)) ∧ (Bts R1 vs ((List.take k L).map RW.vb))) (fun x__ => match x__ with | ⟨R1, k, v1, v2, ks, vs⟩ => zs.length - k) (⟨R, 0, (Value.slice none 0 0), (Value.slice none 0 0), ([] : List Value), ([] : List Value)⟩) ⟨_, congrArg (fun e => mkA 37 e []) (ch (ch (ch (ch (ch (ch (ch rfl rfl) rfl) (rfl : (Value.slice none 0 0) = ((Value.slice none 0 0)))) (rfl : (Value.slice none 0 0) = ((Value.slice none 0 0)))) rfl) rfl) (congrArg (Value.int .i64) ((by first | rfl | omega | (simp; done) | (simp; omega)) : 0 = (0 : Int)))), H6_, (Same.refl w), (Sub.rfl' _), (by first | assumption | omega | exact rfl), (Bts.nil _), (Bts.nil _)⟩ ?_
  rintro ⟨R1, k, v1, v2, ks, vs⟩ _ w7_ ⟨h, rfl, H8_, S9_, hsR1, hk, h1, h2⟩
  refine C_seq (fun K10_ hK10_ => ?_)
  refine C_reg ?_
  refine S_list (T_val (v := (Value.bool (decide ((k : Int) < (zs.length : Int))))) (x_bin rfl rfl rfl) ?_)
  refine wpList_nil ?_
  refine (X_then (hK10_ _ _ ?_))
  clear hK10_
  refine C_seq (fun K11_ hK11_ => ?_)
  refine C_cond (b := decide ((k : Int) < (zs.length : Int))) rfl (fun c12_t => ?_) (fun c12_f => ?_)
  · have c12_tp : (k : Int) < (zs.length : Int) := of_decide_eq_true c12_t
    refine C_skip (X_then (hK11_ _ _ ?_))
    clear hK11_
    refine C_seq (fun K13_ hK13_ => ?_)
    refine C_block ?_
    refine C_seq (fun K14_ hK14_ => ?_)
    refine C_reg ?_
    obtain ⟨x15_, b16_, kv17_, vv18_, hx19_, hz20_, hkv21_⟩ := ZipR.at_ hZ (by omega : k < zs.length)
    have := hS x15_ (List.mem_of_getElem? hx19_)
    refine S_list (T_val (v := (Value.pointer (some ⟨(sb v), so v + (k * 4 + 0), none⟩))) (x_idxRS (v := v) rfl (RS.mono hZs hsR1) rfl Try.underlying92 z166 (by omega) (by omega) (by omega : _ = k) rfl) ?_)
    refine S_list (T_val (v := (Value.agg #[(Value.int .i64 x15_.rev_Main), (Value.int .i64 x15_.rev_Sub), (Value.bool x15_.gone), (Value.pointer (some ⟨b16_, 0, none⟩))])) (x_loadN (vs := [(Value.int .i64 x15_.rev_Main), (Value.int .i64 x15_.rev_Sub), (Value.bool x15_.gone), (Value.pointer (some ⟨b16_, 0, none⟩))]) rfl Try.underlying166 rfl z166 rfl (RC.cells (RS.rc (RS.mono hZs hsR1)) (Holds.ro_at H8_ 2 rfl) (k * 4 + 0) (fm_cells ZR.len hz20_ (i := 0) rfl))) ?_)
    refine S_list (T_alloc z166 H8_ ?_)
    intro b22_ w23_ S25_ H24_
    replace H24_ : Holds w23_ (cl b22_ 166 [(Value.int .i64 0), (Value.int .i64 0), (Value.bool false), (Value.pointer none)] :: sl 43 1 v1 (List.length ks) ks :: sl 43 1 v2 (List.length vs) vs :: ro R1 :: F) := H24_
    have S26_ := Same.trans S9_ S25_
    refine S_list0 (T_storeN (vs := [(Value.int .i64 x15_.rev_Main), (Value.int .i64 x15_.rev_Sub), (Value.bool x15_.gone), (Value.pointer (some ⟨b16_, 0, none⟩))]) rfl rfl z166 rfl (by simp [Value.oneCell']) H24_ 0 rfl (Nat.le_of_ble_eq_true (by rfl)) ?_)
    intro w27_ S29_ H28_
    replace H28_ : Holds w27_ (cl b22_ 166 [(Value.int .i64 x15_.rev_Main), (Value.int .i64 x15_.rev_Sub), (Value.bool x15_.gone), (Value.pointer (some ⟨b16_, 0, none⟩))] :: sl 43 1 v1 (List.length ks) ks :: sl 43 1 v2 (List.length vs) vs :: ro R1 :: F) := H28_
    have S30_ := Same.trans S26_ S29_
    refine wpList_nil ?_
    refine (X_then (hK14_ _ _ ?_))
    clear hK14_
    refine C_seq (fun K31_ hK31_ => ?_)
    refine C_reg ?_
    refine S_list (T_val (v := (Value.pointer (some ⟨b22_, 3, none⟩))) (by kernel_rfl) ?_)
    refine S_list (T_val (v := (Value.pointer (some ⟨b16_, 0, none⟩))) (x_load1 rfl Try.underlying163 rfl ((Holds.rd H28_ 0 rfl) 3 (Value.pointer (some ⟨b16_, 0, none⟩)) rfl)) ?_)
    refine S_list (T_val (v := (Value.iface 163 (Value.pointer (some ⟨b16_, 0, none⟩)))) (by kernel_rfl) ?_)
    refine S_list (T_callW (al := [(Value.iface 163 (Value.pointer (some ⟨b16_, 0, none⟩)))]) rfl rfl cb90 (Calls.into (n := 6) (al := [(Value.iface 163 (Value.pointer (some ⟨b16_, 0, none⟩)))]) Try.func90 rfl Try.ntmps90 rfl rfl ?_))
    refine C_seq (fun K32_ hK32_ => ?_)
    refine C_reg ?_
    refine S_list (T_val (v := (Value.slice none 0 0)) (x_assign rfl) ?_)
    refine S_list (T_val (v := (Value.nilIface)) (x_assign rfl) ?_)
    refine wpList_nil ?_
    refine (X_then (hK32_ _ _ ?_))
    clear hK32_
    refine C_seq (fun K33_ hK33_ => ?_)
    refine C_reg ?_
    refine S_list (T_val (v := (Value.iface 163 (Value.pointer (some ⟨b16_, 0, none⟩)))) (x_move rfl) ?_)
    have H35_ : Holds w27_ (ro R1 :: cl b22_ 166 [(Value.int .i64 x15_.rev_Main), (Value.int .i64 x15_.rev_Sub), (Value.bool x15_.gone), (Value.pointer (some ⟨b16_, 0, none⟩))] :: sl 43 1 v1 (List.length ks) ks :: sl 43 1 v2 (List.length vs) vs :: F) := (Holds.bring H28_ 3 rfl)
    refine S_list (T_invoke (al := [(Value.pointer (some ⟨b16_, 0, none⟩))]) (pre := []) (F := cl b22_ 166 [(Value.int .i64 x15_.rev_Main), (Value.int .i64 x15_.rev_Sub), (Value.bool x15_.gone), (Value.pointer (some ⟨b16_, 0, none⟩))] :: sl 43 1 v1 (List.length ks) ks :: sl 43 1 v2 (List.length vs) vs :: F) rfl (fun w => by kernel_rfl) rfl cb164 (hKV R1 b16_ kv17_ vv18_ x15_.ks x15_.vs x15_.kV_Create x15_.kV_Mod x15_.kV_Version x15_.kV_Lease (RC.mono (hkv21_.cells) hsR1) (RS.mono (hkv21_.key) hsR1) (RS.mono (hkv21_.val) hsR1) (by unfold RW.ks; rw [ints_length]; omega) (by unfold RW.vs; rw [ints_length]; omega)) H35_ ?_)
    rintro v34_ p39_ w36_ ⟨_, rfl, rfl⟩ S38_ H37_
    replace H37_ : Holds w36_ (ro R1 :: sl 5 1 v34_ (List.length (kvb x15_.ks x15_.vs x15_.kV_Create x15_.kV_Mod x15_.kV_Version x15_.kV_Lease)) (bytesV (kvb x15_.ks x15_.vs x15_.kV_Create x15_.kV_Mod x15_.kV_Version x15_.kV_Lease)) :: cl b22_ 166 [(Value.int .i64 x15_.rev_Main), (Value.int .i64 x15_.rev_Sub), (Value.bool x15_.gone), (Value.pointer (some ⟨b16_, 0, none⟩))] :: sl 43 1 v1 (List.length ks) ks :: sl 43 1 v2 (List.length vs) vs :: F) := H37_
    have S40_ := Same.trans S30_ S38_
    obtain ⟨-, a41_, cp42_, rfl, hle43_⟩ := Holds.sl_len H37_ 1 rfl
    refine S_list (T_val (v := (Value.slice a41_ (List.length (kvb x15_.ks x15_.vs x15_.kV_Create x15_.kV_Mod x15_.kV_Version x15_.kV_Lease)) cp42_)) (x_assign rfl) ?_)
    refine S_list (T_val (v := (Value.nilIface)) (x_assign rfl) ?_)
    refine wpList_nil ?_
    refine (X_then (hK33_ _ _ ?_))
    clear hK33_
    refine C_ret ?_
    refine R_any (v := (Value.tuple #[(Value.slice a41_ (List.length (kvb x15_.ks x15_.vs x15_.kV_Create x15_.kV_Mod x15_.kV_Version x15_.kV_Lease)) cp42_), (Value.nilIface)])) (run_results2 rfl rfl rfl) ⟨_, rfl, ?_⟩
    refine S_list (T_val (v := (Value.tuple #[(Value.slice a41_ (List.length (kvb x15_.ks x15_.vs x15_.kV_Create x15_.kV_Mod x15_.kV_Version x15_.kV_Lease)) cp42_), (Value.nilIface)])) (x_move rfl) ?_)
    refine S_list (T_val (v := (Value.slice a41_ (List.length (kvb x15_.ks x15_.vs x15_.kV_Create x15_.kV_Mod x15_.kV_Version x15_.kV_Lease)) cp42_)) (by kernel_rfl) ?_)
    refine S_list (T_val (v := (Value.nilIface)) (by kernel_rfl) ?_)
    refine S_list (T_val (v := (Value.slice a41_ (List.length (kvb x15_.ks x15_.vs x15_.kV_Create x15_.kV_Mod x15_.kV_Version x15_.kV_Lease)) cp42_)) (x_assign rfl) ?_)
    refine S_list (T_val (v := (Value.nilIface)) (x_assign rfl) ?_)
    refine wpList_nil ?_
    refine (X_then (hK31_ _ _ ?_))
    clear hK31_
    refine C_seq (fun K44_ hK44_ => ?_)
    refine A_start (S := fun w => SlRd (Value.slice a41_ (List.length (kvb x15_.ks x15_.vs x15_.kV_Create x15_.kV_Mod x15_.kV_Version x15_.kV_Lease)) cp42_) (bytesV (kvb x15_.ks x15_.vs x15_.kV_Create x15_.kV_Mod x15_.kV_Version x15_.kV_Lease)) w ∧ Rd b22_ [(Value.int .i64 x15_.rev_Main), (Value.int .i64 x15_.rev_Sub), (Value.bool x15_.gone), (Value.pointer (some ⟨b16_, 0, none⟩))] w ∧ SlRd v2 vs w ∧ Sub R1 (hp w)) (N := 8) foll rfl rfl ?_
    have H45_ : Holds w36_.drew (ro R1 :: sl 5 1 (Value.slice a41_ (List.length (kvb x15_.ks x15_.vs x15_.kV_Create x15_.kV_Mod x15_.kV_Version x15_.kV_Lease)) cp42_) (List.length (kvb x15_.ks x15_.vs x15_.kV_Create x15_.kV_Mod x15_.kV_Version x15_.kV_Lease)) (bytesV (kvb x15_.ks x15_.vs x15_.kV_Create x15_.kV_Mod x15_.kV_Version x15_.kV_Lease)) :: cl b22_ 166 [(Value.int .i64 x15_.rev_Main), (Value.int .i64 x15_.rev_Sub), (Value.bool x15_.gone), (Value.pointer (some ⟨b16_, 0, none⟩))] :: sl 43 1 v1 (List.length ks) ks :: sl 43 1 v2 (List.length vs) vs :: F) := H37_
    have hq46_ := And.intro (Holds.slrd H45_ 1 rfl) (And.intro (Holds.rd H45_ 2 rfl) (And.intro (Holds.slrd H45_ 4 rfl) ((Holds.ro_at H45_ 0 rfl))))
    refine A_tk 0 (v := v1) rfl (by kernel_rfl) (fun w hS => x_move rfl) hq46_ ?_
    refine A_tk 1 (v := (Value.pointer (some ⟨b22_, 0, none⟩))) rfl (by kernel_rfl) (fun w hS => by kernel_rfl) hq46_ ?_
    refine A_tk 2 (v := (Value.agg #[(Value.int .i64 x15_.rev_Main), (Value.int .i64 x15_.rev_Sub), (Value.bool x15_.gone)])) rfl (by kernel_rfl) (fun w hS => x_loadN (vs := [(Value.int .i64 x15_.rev_Main), (Value.int .i64 x15_.rev_Sub), (Value.bool x15_.gone)]) rfl Try.underlying161 rfl z161 rfl (Rd.cells hS.2.1 0 rfl)) hq46_ ?_
    refine A_ready (i := 3) (rs := []) (by kernel_rfl) ?_
    refine AllR.cons ?_ AllR.nil
    refine A_op (ls' := #[true, true, true, true, false, false, false, false]) rfl (by kernel_rfl) (T_callW (al := []) rfl rfl cb92 (Calls.into (n := 2) (al := []) Try.func92 rfl Try.ntmps92 rfl rfl ?_))
    refine C_seq (fun K47_ hK47_ => ?_)
    refine C_reg ?_
    refine S_list (T_val (v := (Value.slice none 0 0)) (x_assign rfl) ?_)
    refine wpList_nil ?_
    refine (X_then (hK47_ _ _ ?_))
    clear hK47_
    refine C_seq (fun K48_ hK48_ => ?_)
    refine C_reg ?_
    refine S_list (T_makeSlice1 (len := 17) (cap := 18) rfl rfl Try.underlying43 z5 rfl (by omega) (by omega) (by omega) (by omega) (by omega) H45_ ?_)
    intro b49_ w50_ S52_ H51_
    replace H51_ : Holds w50_ (cl b49_ 5 (List.replicate 18 (Value.int .u8 0)) :: ro R1 :: sl 5 1 (Value.slice a41_ (List.length (kvb x15_.ks x15_.vs x15_.kV_Create x15_.kV_Mod x15_.kV_Version x15_.kV_Lease)) cp42_) (List.length (kvb x15_.ks x15_.vs x15_.kV_Create x15_.kV_Mod x15_.kV_Version x15_.kV_Lease)) (bytesV (kvb x15_.ks x15_.vs x15_.kV_Create x15_.kV_Mod x15_.kV_Version x15_.kV_Lease)) :: cl b22_ 166 [(Value.int .i64 x15_.rev_Main), (Value.int .i64 x15_.rev_Sub), (Value.bool x15_.gone), (Value.pointer (some ⟨b16_, 0, none⟩))] :: sl 43 1 v1 (List.length ks) ks :: sl 43 1 v2 (List.length vs) vs :: F) := H51_
    have S53_ := Same.trans (Same.trans S40_ (Same.drew _)) S52_
    refine S_list (T_val (v := (Value.slice (some ⟨b49_, 0, none⟩) 17 18)) (x_assign rfl) ?_)
    refine wpList_nil ?_
    refine (X_then (hK48_ _ _ ?_))
    clear hK48_
    refine C_ret ?_
    refine R_any (v := (Value.slice (some ⟨b49_, 0, none⟩) 17 18)) (run_results1 rfl rfl) ⟨_, rfl, ?_⟩
    refine ⟨⟨Holds.slrd H51_ 2 rfl, Holds.rd H51_ 3 rfl, Holds.slrd H51_ 5 rfl, (Holds.ro_at H51_ 1 rfl)⟩, ?_⟩
    refine A_ready (i := 4) (rs := []) (by kernel_rfl) ?_
    refine AllR.cons ?_ AllR.nil
    have H54_ : Holds w50_ (cl b49_ 5 [(Value.int .u8 0), (Value.int .u8 0), (Value.int .u8 0), (Value.int .u8 0), (Value.int .u8 0), (Value.int .u8 0), (Value.int .u8 0), (Value.int .u8 0), (Value.int .u8 0), (Value.int .u8 0), (Value.int .u8 0), (Value.int .u8 0), (Value.int .u8 0), (Value.int .u8 0), (Value.int .u8 0), (Value.int .u8 0), (Value.int .u8 0), (Value.int .u8 0)] :: ro R1 :: sl 5 1 (Value.slice a41_ (List.length (kvb x15_.ks x15_.vs x15_.kV_Create x15_.kV_Mod x15_.kV_Version x15_.kV_Lease)) cp42_) (List.length (kvb x15_.ks x15_.vs x15_.kV_Create x15_.kV_Mod x15_.kV_Version x15_.kV_Lease)) (bytesV (kvb x15_.ks x15_.vs x15_.kV_Create x15_.kV_Mod x15_.kV_Version x15_.kV_Lease)) :: cl b22_ 166 [(Value.int .i64 x15_.rev_Main), (Value.int .i64 x15_.rev_Sub), (Value.bool x15_.gone), (Value.pointer (some ⟨b16_, 0, none⟩))] :: sl 43 1 v1 (List.length ks) ks :: sl 43 1 v2 (List.length vs) vs :: F) := cast1 (P := fun (c__ : List Value) => Holds w50_ (cl b49_ 5 c__ :: ro R1 :: sl 5 1 (Value.slice a41_ (List.length (kvb x15_.ks x15_.vs x15_.kV_Create x15_.kV_Mod x15_.kV_Version x15_.kV_Lease)) cp42_) (List.length (kvb x15_.ks x15_.vs x15_.kV_Create x15_.kV_Mod x15_.kV_Version x15_.kV_Lease)) (bytesV (kvb x15_.ks x15_.vs x15_.kV_Create x15_.kV_Mod x15_.kV_Version x15_.kV_Lease)) :: cl b22_ 166 [(Value.int .i64 x15_.rev_Main), (Value.int .i64 x15_.rev_Sub), (Value.bool x15_.gone), (Value.pointer (some ⟨b16_, 0, none⟩))] :: sl 43 1 v1 (List.length ks) ks :: sl 43 1 v2 (List.length vs) vs :: F)) (rfl : List.replicate 18 (Value.int .u8 0) = [(Value.int .u8 0), (Value.int .u8 0), (Value.int .u8 0), (Value.int .u8 0), (Value.int .u8 0), (Value.int .u8 0), (Value.int .u8 0), (Value.int .u8 0), (Value.int .u8 0), (Value.int .u8 0), (Value.int .u8 0), (Value.int .u8 0), (Value.int .u8 0), (Value.int .u8 0), (Value.int .u8 0), (Value.int .u8 0), (Value.int .u8 0), (Value.int .u8 0)]) H51_
    have H56_ : Holds w50_ (ro R1 :: cl b49_ 5 [(Value.int .u8 0), (Value.int .u8 0), (Value.int .u8 0), (Value.int .u8 0), (Value.int .u8 0), (Value.int .u8 0), (Value.int .u8 0), (Value.int .u8 0), (Value.int .u8 0), (Value.int .u8 0), (Value.int .u8 0), (Value.int .u8 0), (Value.int .u8 0), (Value.int .u8 0), (Value.int .u8 0), (Value.int .u8 0), (Value.int .u8 0), (Value.int .u8 0)] :: sl 5 1 (Value.slice a41_ (List.length (kvb x15_.ks x15_.vs x15_.kV_Create x15_.kV_Mod x15_.kV_Version x15_.kV_Lease)) cp42_) (List.length (kvb x15_.ks x15_.vs x15_.kV_Create x15_.kV_Mod x15_.kV_Version x15_.kV_Lease)) (bytesV (kvb x15_.ks x15_.vs x15_.kV_Create x15_.kV_Mod x15_.kV_Version x15_.kV_Lease)) :: cl b22_ 166 [(Value.int .i64 x15_.rev_Main), (Value.int .i64 x15_.rev_Sub), (Value.bool x15_.gone), (Value.pointer (some ⟨b16_, 0, none⟩))] :: sl 43 1 v1 (List.length ks) ks :: sl 43 1 v2 (List.length vs) vs :: F) := (Holds.bring (Holds.bring H54_ 0 rfl) 1 rfl)
    refine A_op (ls' := #[true, true, true, true, true, false, false, false]) rfl (by kernel_rfl) (T_call (al := [(Value.agg #[(Value.int .i64 x15_.rev_Main), (Value.int .i64 x15_.rev_Sub), (Value.bool x15_.gone)]), (Value.slice (some ⟨b49_, 0, none⟩) 17 18)]) (pre := [cl b49_ 5 [(Value.int .u8 0), (Value.int .u8 0), (Value.int .u8 0), (Value.int .u8 0), (Value.int .u8 0), (Value.int .u8 0), (Value.int .u8 0), (Value.int .u8 0), (Value.int .u8 0), (Value.int .u8 0), (Value.int .u8 0), (Value.int .u8 0), (Value.int .u8 0), (Value.int .u8 0), (Value.int .u8 0), (Value.int .u8 0), (Value.int .u8 0), (Value.int .u8 0)]]) (F := sl 5 1 (Value.slice a41_ (List.length (kvb x15_.ks x15_.vs x15_.kV_Create x15_.kV_Mod x15_.kV_Version x15_.kV_Lease)) cp42_) (List.length (kvb x15_.ks x15_.vs x15_.kV_Create x15_.kV_Mod x15_.kV_Version x15_.kV_Lease)) (bytesV (kvb x15_.ks x15_.vs x15_.kV_Create x15_.kV_Mod x15_.kV_Version x15_.kV_Lease)) :: cl b22_ 166 [(Value.int .i64 x15_.rev_Main), (Value.int .i64 x15_.rev_Sub), (Value.bool x15_.gone), (Value.pointer (some ⟨b16_, 0, none⟩))] :: sl 43 1 v1 (List.length ks) ks :: sl 43 1 v2 (List.length vs) vs :: F) rfl rfl cb91 (hKey R1 b49_ x15_.rev_Main x15_.rev_Sub x15_.gone) H56_ ?_)
    rintro v55_ p60_ w57_ ⟨_, rfl, rfl⟩ S59_ H58_
    replace H58_ : Holds w57_ (ro R1 :: sl 5 1 v55_ (List.length (rkey x15_.rev_Main x15_.rev_Sub x15_.gone)) (bytesV (rkey x15_.rev_Main x15_.rev_Sub x15_.gone)) :: sl 5 1 (Value.slice a41_ (List.length (kvb x15_.ks x15_.vs x15_.kV_Create x15_.kV_Mod x15_.kV_Version x15_.kV_Lease)) cp42_) (List.length (kvb x15_.ks x15_.vs x15_.kV_Create x15_.kV_Mod x15_.kV_Version x15_.kV_Lease)) (bytesV (kvb x15_.ks x15_.vs x15_.kV_Create x15_.kV_Mod x15_.kV_Version x15_.kV_Lease)) :: cl b22_ 166 [(Value.int .i64 x15_.rev_Main), (Value.int .i64 x15_.rev_Sub), (Value.bool x15_.gone), (Value.pointer (some ⟨b16_, 0, none⟩))] :: sl 43 1 v1 (List.length ks) ks :: sl 43 1 v2 (List.length vs) vs :: F) := H58_
    have S61_ := Same.trans S53_ S59_
    obtain ⟨-, a62_, cp63_, rfl, hle64_⟩ := Holds.sl_len H58_ 1 rfl
    refine ⟨⟨Holds.slrd H58_ 2 rfl, Holds.rd H58_ 3 rfl, Holds.slrd H58_ 5 rfl, (Holds.ro_at H58_ 0 rfl)⟩, ?_⟩
    refine A_ready (i := 5) (rs := []) (by kernel_rfl) ?_
    refine AllR.cons ?_ AllR.nil
    refine A_op (ls' := #[true, true, true, true, true, true, false, false]) rfl (by kernel_rfl) (T_new (obj := .cells #[(Value.slice a62_ (List.length (rkey x15_.rev_Main x15_.rev_Sub x15_.gone)) cp63_)] 43) (f := fun b__ => .slice (some ⟨b__, 0, none⟩) 1 1) (A := fun b__ => cl b__ 43 [(Value.slice a62_ (List.length (rkey x15_.rev_Main x15_.rev_Sub x15_.gone)) cp63_)]) (by kernel_rfl) (fun l h => h.alloc _ _) H58_ ?_)
    intro b65_ w66_ S68_ H67_
    replace H67_ : Holds w66_ (cl b65_ 43 [(Value.slice a62_ (List.length (rkey x15_.rev_Main x15_.rev_Sub x15_.gone)) cp63_)] :: ro R1 :: sl 5 1 (Value.slice a62_ (List.length (rkey x15_.rev_Main x15_.rev_Sub x15_.gone)) cp63_) (List.length (rkey x15_.rev_Main x15_.rev_Sub x15_.gone)) (bytesV (rkey x15_.rev_Main x15_.rev_Sub x15_.gone)) :: sl 5 1 (Value.slice a41_ (List.length (kvb x15_.ks x15_.vs x15_.kV_Create x15_.kV_Mod x15_.kV_Version x15_.kV_Lease)) cp42_) (List.length (kvb x15_.ks x15_.vs x15_.kV_Create x15_.kV_Mod x15_.kV_Version x15_.kV_Lease)) (bytesV (kvb x15_.ks x15_.vs x15_.kV_Create x15_.kV_Mod x15_.kV_Version x15_.kV_Lease)) :: cl b22_ 166 [(Value.int .i64 x15_.rev_Main), (Value.int .i64 x15_.rev_Sub), (Value.bool x15_.gone), (Value.pointer (some ⟨b16_, 0, none⟩))] :: sl 43 1 v1 (List.length ks) ks :: sl 43 1 v2 (List.length vs) vs :: F) := H67_
    have S69_ := Same.trans S61_ S68_
    refine ⟨⟨Holds.slrd H67_ 3 rfl, Holds.rd H67_ 4 rfl, Holds.slrd H67_ 6 rfl, (Holds.ro_at H67_ 1 rfl)⟩, ?_⟩
    refine A_ready (i := 6) (rs := []) (by kernel_rfl) ?_
    refine AllR.cons ?_ AllR.nil
    refine A_op (ls' := #[true, true, true, true, true, true, true, false]) rfl (by kernel_rfl) (T_append rfl rfl Try.underlying152 z43 rfl (by decide) H67_ 5 rfl (Holds.cl_src H67_ 0 rfl Try.underlying152 (by simp [Value.oneCell']) rfl) (by have h1l := h1.1; have h2l := h2.1; rw [List.length_map, List.length_take] at h1l h2l; omega) ?_)
    intro v70_ w71_ S73_ H72_
    replace H72_ : Holds w71_ (cl b65_ 43 [(Value.slice a62_ (List.length (rkey x15_.rev_Main x15_.rev_Sub x15_.gone)) cp63_)] :: ro R1 :: sl 5 1 (Value.slice a62_ (List.length (rkey x15_.rev_Main x15_.rev_Sub x15_.gone)) cp63_) (List.length (rkey x15_.rev_Main x15_.rev_Sub x15_.gone)) (bytesV (rkey x15_.rev_Main x15_.rev_Sub x15_.gone)) :: sl 5 1 (Value.slice a41_ (List.length (kvb x15_.ks x15_.vs x15_.kV_Create x15_.kV_Mod x15_.kV_Version x15_.kV_Lease)) cp42_) (List.length (kvb x15_.ks x15_.vs x15_.kV_Create x15_.kV_Mod x15_.kV_Version x15_.kV_Lease)) (bytesV (kvb x15_.ks x15_.vs x15_.kV_Create x15_.kV_Mod x15_.kV_Version x15_.kV_Lease)) :: cl b22_ 166 [(Value.int .i64 x15_.rev_Main), (Value.int .i64 x15_.rev_Sub), (Value.bool x15_.gone), (Value.pointer (some ⟨b16_, 0, none⟩))] :: sl 43 1 v70_ ((List.length ks) + 1) (ks ++ [(Value.slice a62_ (List.length (rkey x15_.rev_Main x15_.rev_Sub x15_.gone)) cp63_)]) :: sl 43 1 v2 (List.length vs) vs :: F) := H72_
    have S74_ := Same.trans S69_ S73_
    refine ⟨⟨Holds.slrd H72_ 3 rfl, Holds.rd H72_ 4 rfl, Holds.slrd H72_ 6 rfl, (Holds.ro_at H72_ 1 rfl)⟩, ?_⟩
    have hq75_ := And.intro (Holds.slrd H72_ 3 rfl) (And.intro (Holds.rd H72_ 4 rfl) (And.intro (Holds.slrd H72_ 6 rfl) ((Holds.ro_at H72_ 1 rfl))))
    refine A_tk 7 (v := v70_) rfl (by kernel_rfl) (fun w hS => x_assign rfl) hq75_ ?_
    refine A_done (by kernel_rfl) ?_
    refine (X_then (hK44_ _ _ ?_))
    clear hK44_
    refine C_reg ?_
    refine S_list (T_val (v := v2) (x_move rfl) ?_)
    refine S_list (T_val (v := (Value.slice a41_ (List.length (kvb x15_.ks x15_.vs x15_.kV_Create x15_.kV_Mod x15_.kV_Version x15_.kV_Lease)) cp42_)) (x_move rfl) ?_)
    refine S_list (T_new (obj := .cells #[(Value.slice a41_ (List.length (kvb x15_.ks x15_.vs x15_.kV_Create x15_.kV_Mod x15_.kV_Version x15_.kV_Lease)) cp42_)] 43) (f := fun b__ => .slice (some ⟨b__, 0, none⟩) 1 1) (A := fun b__ => cl b__ 43 [(Value.slice a41_ (List.length (kvb x15_.ks x15_.vs x15_.kV_Create x15_.kV_Mod x15_.kV_Version x15_.kV_Lease)) cp42_)]) (by kernel_rfl) (fun l h => h.alloc _ _) H72_ ?_)
    intro b76_ w77_ S79_ H78_
    replace H78_ : Holds w77_ (cl b76_ 43 [(Value.slice a41_ (List.length (kvb x15_.ks x15_.vs x15_.kV_Create x15_.kV_Mod x15_.kV_Version x15_.kV_Lease)) cp42_)] :: cl b65_ 43 [(Value.slice a62_ (List.length (rkey x15_.rev_Main x15_.rev_Sub x15_.gone)) cp63_)] :: ro R1 :: sl 5 1 (Value.slice a62_ (List.length (rkey x15_.rev_Main x15_.rev_Sub x15_.gone)) cp63_) (List.length (rkey x15_.rev_Main x15_.rev_Sub x15_.gone)) (bytesV (rkey x15_.rev_Main x15_.rev_Sub x15_.gone)) :: sl 5 1 (Value.slice a41_ (List.length (kvb x15_.ks x15_.vs x15_.kV_Create x15_.kV_Mod x15_.kV_Version x15_.kV_Lease)) cp42_) (List.length (kvb x15_.ks x15_.vs x15_.kV_Create x15_.kV_Mod x15_.kV_Version x15_.kV_Lease)) (bytesV (kvb x15_.ks x15_.vs x15_.kV_Create x15_.kV_Mod x15_.kV_Version x15_.kV_Lease)) :: cl b22_ 166 [(Value.int .i64 x15_.rev_Main), (Value.int .i64 x15_.rev_Sub), (Value.bool x15_.gone), (Value.pointer (some ⟨b16_, 0, none⟩))] :: sl 43 1 v70_ ((List.length ks) + 1) (ks ++ [(Value.slice a62_ (List.length (rkey x15_.rev_Main x15_.rev_Sub x15_.gone)) cp63_)]) :: sl 43 1 v2 (List.length vs) vs :: F) := H78_
    have S80_ := Same.trans S74_ S79_
    refine S_list (T_append rfl rfl Try.underlying152 z43 rfl (by decide) H78_ 7 rfl (Holds.cl_src H78_ 0 rfl Try.underlying152 (by simp [Value.oneCell']) rfl) (by have h1l := h1.1; have h2l := h2.1; rw [List.length_map, List.length_take] at h1l h2l; omega) ?_)
    intro v81_ w82_ S84_ H83_
    replace H83_ : Holds w82_ (cl b76_ 43 [(Value.slice a41_ (List.length (kvb x15_.ks x15_.vs x15_.kV_Create x15_.kV_Mod x15_.kV_Version x15_.kV_Lease)) cp42_)] :: cl b65_ 43 [(Value.slice a62_ (List.length (rkey x15_.rev_Main x15_.rev_Sub x15_.gone)) cp63_)] :: ro R1 :: sl 5 1 (Value.slice a62_ (List.length (rkey x15_.rev_Main x15_.rev_Sub x15_.gone)) cp63_) (List.length (rkey x15_.rev_Main x15_.rev_Sub x15_.gone)) (bytesV (rkey x15_.rev_Main x15_.rev_Sub x15_.gone)) :: sl 5 1 (Value.slice a41_ (List.length (kvb x15_.ks x15_.vs x15_.kV_Create x15_.kV_Mod x15_.kV_Version x15_.kV_Lease)) cp42_) (List.length (kvb x15_.ks x15_.vs x15_.kV_Create x15_.kV_Mod x15_.kV_Version x15_.kV_Lease)) (bytesV (kvb x15_.ks x15_.vs x15_.kV_Create x15_.kV_Mod x15_.kV_Version x15_.kV_Lease)) :: cl b22_ 166 [(Value.int .i64 x15_.rev_Main), (Value.int .i64 x15_.rev_Sub), (Value.bool x15_.gone), (Value.pointer (some ⟨b16_, 0, none⟩))] :: sl 43 1 v70_ ((List.length ks) + 1) (ks ++ [(Value.slice a62_ (List.length (rkey x15_.rev_Main x15_.rev_Sub x15_.gone)) cp63_)]) :: sl 43 1 v81_ ((List.length vs) + 1) (vs ++ [(Value.slice a41_ (List.length (kvb x15_.ks x15_.vs x15_.kV_Create x15_.kV_Mod x15_.kV_Version x15_.kV_Lease)) cp42_)]) :: F) := H83_
    have S85_ := Same.trans S80_ S84_
    refine S_list (T_val (v := v81_) (x_assign rfl) ?_)
    refine wpList_nil ?_
    refine (X_blkN (X_then (hK13_ _ _ ?_)))
    clear hK13_
    refine C_reg ?_
    refine S_list (T_val (v := (Value.int .i64 ((k : Int) + 1))) (x_bin rfl rfl (ib_add (IntWalk.i64_in _ (by omega)))) ?_)
    refine S_list (T_val (v := (Value.int .i64 ((k : Int) + 1))) (x_move rfl) ?_)
    refine wpList_nil ?_
    refine (X_then ?_)
    have H86_ : Holds w82_ (ro R1 :: sl 5 1 (Value.slice a62_ (List.length (rkey x15_.rev_Main x15_.rev_Sub x15_.gone)) cp63_) (List.length (rkey x15_.rev_Main x15_.rev_Sub x15_.gone)) (bytesV (rkey x15_.rev_Main x15_.rev_Sub x15_.gone)) :: cl b76_ 43 [(Value.slice a41_ (List.length (kvb x15_.ks x15_.vs x15_.kV_Create x15_.kV_Mod x15_.kV_Version x15_.kV_Lease)) cp42_)] :: cl b65_ 43 [(Value.slice a62_ (List.length (rkey x15_.rev_Main x15_.rev_Sub x15_.gone)) cp63_)] :: sl 5 1 (Value.slice a41_ (List.length (kvb x15_.ks x15_.vs x15_.kV_Create x15_.kV_Mod x15_.kV_Version x15_.kV_Lease)) cp42_) (List.length (kvb x15_.ks x15_.vs x15_.kV_Create x15_.kV_Mod x15_.kV_Version x15_.kV_Lease)) (bytesV (kvb x15_.ks x15_.vs x15_.kV_Create x15_.kV_Mod x15_.kV_Version x15_.kV_Lease)) :: cl b22_ 166 [(Value.int .i64 x15_.rev_Main), (Value.int .i64 x15_.rev_Sub), (Value.bool x15_.gone), (Value.pointer (some ⟨b16_, 0, none⟩))] :: sl 43 1 v70_ ((List.length ks) + 1) (ks ++ [(Value.slice a62_ (List.length (rkey x15_.rev_Main x15_.rev_Sub x15_.gone)) cp63_)]) :: sl 43 1 v81_ ((List.length vs) + 1) (vs ++ [(Value.slice a41_ (List.length (kvb x15_.ks x15_.vs x15_.kV_Create x15_.kV_Mod x15_.kV_Version x15_.kV_Lease)) cp42_)]) :: F) := (Holds.bring (Holds.bring H83_ 3 rfl) 3 rfl)
    obtain ⟨R87_, hs88_, ⟨R89_, ha90_, hs91_⟩, H92_⟩ := Holds.gift H86_
    replace H92_ : Holds w82_ (ro R87_ :: cl b76_ 43 [(Value.slice a41_ (List.length (kvb x15_.ks x15_.vs x15_.kV_Create x15_.kV_Mod x15_.kV_Version x15_.kV_Lease)) cp42_)] :: cl b65_ 43 [(Value.slice a62_ (List.length (rkey x15_.rev_Main x15_.rev_Sub x15_.gone)) cp63_)] :: sl 5 1 (Value.slice a41_ (List.length (kvb x15_.ks x15_.vs x15_.kV_Create x15_.kV_Mod x15_.kV_Version x15_.kV_Lease)) cp42_) (List.length (kvb x15_.ks x15_.vs x15_.kV_Create x15_.kV_Mod x15_.kV_Version x15_.kV_Lease)) (bytesV (kvb x15_.ks x15_.vs x15_.kV_Create x15_.kV_Mod x15_.kV_Version x15_.kV_Lease)) :: cl b22_ 166 [(Value.int .i64 x15_.rev_Main), (Value.int .i64 x15_.rev_Sub), (Value.bool x15_.gone), (Value.pointer (some ⟨b16_, 0, none⟩))] :: sl 43 1 v70_ ((List.length ks) + 1) (ks ++ [(Value.slice a62_ (List.length (rkey x15_.rev_Main x15_.rev_Sub x15_.gone)) cp63_)]) :: sl 43 1 v81_ ((List.length vs) + 1) (vs ++ [(Value.slice a41_ (List.length (kvb x15_.ks x15_.vs x15_.kV_Create x15_.kV_Mod x15_.kV_Version x15_.kV_Lease)) cp42_)]) :: F) := H92_
    have hs93_ := Sub.trans' hsR1 hs88_
    have hr94_ : RS R87_ 1 (Value.slice a62_ (List.length (rkey x15_.rev_Main x15_.rev_Sub x15_.gone)) cp63_) (List.length (rkey x15_.rev_Main x15_.rev_Sub x15_.gone)) (bytesV (rkey x15_.rev_Main x15_.rev_Sub x15_.gone)) := (sl_RS ha90_ (Sub.rfl' _)).mono hs91_
    have H95_ : Holds w82_ (ro R87_ :: sl 5 1 (Value.slice a41_ (List.length (kvb x15_.ks x15_.vs x15_.kV_Create x15_.kV_Mod x15_.kV_Version x15_.kV_Lease)) cp42_) (List.length (kvb x15_.ks x15_.vs x15_.kV_Create x15_.kV_Mod x15_.kV_Version x15_.kV_Lease)) (bytesV (kvb x15_.ks x15_.vs x15_.kV_Create x15_.kV_Mod x15_.kV_Version x15_.kV_Lease)) :: cl b76_ 43 [(Value.slice a41_ (List.length (kvb x15_.ks x15_.vs x15_.kV_Create x15_.kV_Mod x15_.kV_Version x15_.kV_Lease)) cp42_)] :: cl b65_ 43 [(Value.slice a62_ (List.length (rkey x15_.rev_Main x15_.rev_Sub x15_.gone)) cp63_)] :: cl b22_ 166 [(Value.int .i64 x15_.rev_Main), (Value.int .i64 x15_.rev_Sub), (Value.bool x15_.gone), (Value.pointer (some ⟨b16_, 0, none⟩))] :: sl 43 1 v70_ ((List.length ks) + 1) (ks ++ [(Value.slice a62_ (List.length (rkey x15_.rev_Main x15_.rev_Sub x15_.gone)) cp63_)]) :: sl 43 1 v81_ ((List.length vs) + 1) (vs ++ [(Value.slice a41_ (List.length (kvb x15_.ks x15_.vs x15_.kV_Create x15_.kV_Mod x15_.kV_Version x15_.kV_Lease)) cp42_)]) :: F) := (Holds.bring (Holds.bring H92_ 3 rfl) 1 rfl)
    obtain ⟨R96_, hs97_, ⟨R98_, ha99_, hs100_⟩, H101_⟩ := Holds.gift H95_
    replace H101_ : Holds w82_ (ro R96_ :: cl b76_ 43 [(Value.slice a41_ (List.length (kvb x15_.ks x15_.vs x15_.kV_Create x15_.kV_Mod x15_.kV_Version x15_.kV_Lease)) cp42_)] :: cl b65_ 43 [(Value.slice a62_ (List.length (rkey x15_.rev_Main x15_.rev_Sub x15_.gone)) cp63_)] :: cl b22_ 166 [(Value.int .i64 x15_.rev_Main), (Value.int .i64 x15_.rev_Sub), (Value.bool x15_.gone), (Value.pointer (some ⟨b16_, 0, none⟩))] :: sl 43 1 v70_ ((List.length ks) + 1) (ks ++ [(Value.slice a62_ (List.length (rkey x15_.rev_Main x15_.rev_Sub x15_.gone)) cp63_)]) :: sl 43 1 v81_ ((List.length vs) + 1) (vs ++ [(Value.slice a41_ (List.length (kvb x15_.ks x15_.vs x15_.kV_Create x15_.kV_Mod x15_.kV_Version x15_.kV_Lease)) cp42_)]) :: F) := H101_
    have hs102_ := Sub.trans' hs93_ hs97_
    have hs103_ := Sub.trans' hs88_ hs97_
    have hr104_ : RS R96_ 1 (Value.slice a41_ (List.length (kvb x15_.ks x15_.vs x15_.kV_Create x15_.kV_Mod x15_.kV_Version x15_.kV_Lease)) cp42_) (List.length (kvb x15_.ks x15_.vs x15_.kV_Create x15_.kV_Mod x15_.kV_Version x15_.kV_Lease)) (bytesV (kvb x15_.ks x15_.vs x15_.kV_Create x15_.kV_Mod x15_.kV_Version x15_.kV_Lease)) := (sl_RS ha99_ (Sub.rfl' _)).mono hs100_
    have H105_ : Holds w82_ (ro R96_ :: cl b76_ 43 [(Value.slice a41_ (List.length (kvb x15_.ks x15_.vs x15_.kV_Create x15_.kV_Mod x15_.kV_Version x15_.kV_Lease)) cp42_)] :: cl b65_ 43 [(Value.slice a62_ (List.length (rkey x15_.rev_Main x15_.rev_Sub x15_.gone)) cp63_)] :: cl b22_ 166 [(Value.int .i64 x15_.rev_Main), (Value.int .i64 x15_.rev_Sub), (Value.bool x15_.gone), (Value.pointer (some ⟨b16_, 0, none⟩))] :: sl 43 1 v70_ (List.length (ks ++ [(Value.slice a62_ (List.length (rkey x15_.rev_Main x15_.rev_Sub x15_.gone)) cp63_)])) (ks ++ [(Value.slice a62_ (List.length (rkey x15_.rev_Main x15_.rev_Sub x15_.gone)) cp63_)]) :: sl 43 1 v81_ ((List.length vs) + 1) (vs ++ [(Value.slice a41_ (List.length (kvb x15_.ks x15_.vs x15_.kV_Create x15_.kV_Mod x15_.kV_Version x15_.kV_Lease)) cp42_)]) :: F) := cast2 (P := fun (c__ : List Value) (k__ : Nat) => Holds w82_ (ro R96_ :: cl b76_ 43 [(Value.slice a41_ (List.length (kvb x15_.ks x15_.vs x15_.kV_Create x15_.kV_Mod x15_.kV_Version x15_.kV_Lease)) cp42_)] :: cl b65_ 43 [(Value.slice a62_ (List.length (rkey x15_.rev_Main x15_.rev_Sub x15_.gone)) cp63_)] :: cl b22_ 166 [(Value.int .i64 x15_.rev_Main), (Value.int .i64 x15_.rev_Sub), (Value.bool x15_.gone), (Value.pointer (some ⟨b16_, 0, none⟩))] :: sl 43 1 v70_ k__ c__ :: sl 43 1 v81_ ((List.length vs) + 1) (vs ++ [(Value.slice a41_ (List.length (kvb x15_.ks x15_.vs x15_.kV_Create x15_.kV_Mod x15_.kV_Version x15_.kV_Lease)) cp42_)]) :: F)) (rfl : ks ++ [(Value.slice a62_ (List.length (rkey x15_.rev_Main x15_.rev_Sub x15_.gone)) cp63_)] = (ks ++ [(Value.slice a62_ (List.length (rkey x15_.rev_Main x15_.rev_Sub x15_.gone)) cp63_)])) ((by first | rfl | omega | (simp; done) | (simp; omega)) : (List.length ks) + 1 = (List.length (ks ++ [(Value.slice a62_ (List.length (rkey x15_.rev_Main x15_.rev_Sub x15_.gone)) cp63_)]))) H101_
    have H106_ : Holds w82_ (ro R96_ :: cl b76_ 43 [(Value.slice a41_ (List.length (kvb x15_.ks x15_.vs x15_.kV_Create x15_.kV_Mod x15_.kV_Version x15_.kV_Lease)) cp42_)] :: cl b65_ 43 [(Value.slice a62_ (List.length (rkey x15_.rev_Main x15_.rev_Sub x15_.gone)) cp63_)] :: cl b22_ 166 [(Value.int .i64 x15_.rev_Main), (Value.int .i64 x15_.rev_Sub), (Value.bool x15_.gone), (Value.pointer (some ⟨b16_, 0, none⟩))] :: sl 43 1 v70_ (List.length (ks ++ [(Value.slice a62_ (List.length (rkey x15_.rev_Main x15_.rev_Sub x15_.gone)) cp63_)])) (ks ++ [(Value.slice a62_ (List.length (rkey x15_.rev_Main x15_.rev_Sub x15_.gone)) cp63_)]) :: sl 43 1 v81_ (List.length (vs ++ [(Value.slice a41_ (List.length (kvb x15_.ks x15_.vs x15_.kV_Create x15_.kV_Mod x15_.kV_Version x15_.kV_Lease)) cp42_)])) (vs ++ [(Value.slice a41_ (List.length (kvb x15_.ks x15_.vs x15_.kV_Create x15_.kV_Mod x15_.kV_Version x15_.kV_Lease)) cp42_)]) :: F) := cast2 (P := fun (c__ : List Value) (k__ : Nat) => Holds w82_ (ro R96_ :: cl b76_ 43 [(Value.slice a41_ (List.length (kvb x15_.ks x15_.vs x15_.kV_Create x15_.kV_Mod x15_.kV_Version x15_.kV_Lease)) cp42_)] :: cl b65_ 43 [(Value.slice a62_ (List.length (rkey x15_.rev_Main x15_.rev_Sub x15_.gone)) cp63_)] :: cl b22_ 166 [(Value.int .i64 x15_.rev_Main), (Value.int .i64 x15_.rev_Sub), (Value.bool x15_.gone), (Value.pointer (some ⟨b16_, 0, none⟩))] :: sl 43 1 v70_ (List.length (ks ++ [(Value.slice a62_ (List.length (rkey x15_.rev_Main x15_.rev_Sub x15_.gone)) cp63_)])) (ks ++ [(Value.slice a62_ (List.length (rkey x15_.rev_Main x15_.rev_Sub x15_.gone)) cp63_)]) :: sl 43 1 v81_ k__ c__ :: F)) (rfl : vs ++ [(Value.slice a41_ (List.length (kvb x15_.ks x15_.vs x15_.kV_Create x15_.kV_Mod x15_.kV_Version x15_.kV_Lease)) cp42_)] = (vs ++ [(Value.slice a41_ (List.length (kvb x15_.ks x15_.vs x15_.kV_Create x15_.kV_Mod x15_.kV_Version x15_.kV_Lease)) cp42_)])) ((by first | rfl | omega | (simp; done) | (simp; omega)) : (List.length vs) + 1 = (List.length (vs ++ [(Value.slice a41_ (List.length (kvb x15_.ks x15_.vs x15_.kV_Create x15_.kV_Mod x15_.kV_Version x15_.kV_Lease)) cp42_)]))) H105_
    have H107_ : Holds w82_ (sl 43 1 v70_ (List.length (ks ++ [(Value.slice a62_ (List.length (rkey x15_.rev_Main x15_.rev_Sub x15_.gone)) cp63_)])) (ks ++ [(Value.slice a62_ (List.length (rkey x15_.rev_Main x15_.rev_Sub x15_.gone)) cp63_)]) :: sl 43 1 v81_ (List.length (vs ++ [(Value.slice a41_ (List.length (kvb x15_.ks x15_.vs x15_.kV_Create x15_.kV_Mod x15_.kV_Version x15_.kV_Lease)) cp42_)])) (vs ++ [(Value.slice a41_ (List.length (kvb x15_.ks x15_.vs x15_.kV_Create x15_.kV_Mod x15_.kV_Version x15_.kV_Lease)) cp42_)]) :: ro R96_ :: F) := (Holds.erase (Holds.erase (Holds.erase (Holds.bring (Holds.bring (Holds.bring H106_ 0 rfl) 5 rfl) 5 rfl) 3) 3) 3)
    exact ⟨⟨R96_, k + 1, v70_, v81_, ks ++ [(Value.slice a62_ (List.length (rkey x15_.rev_Main x15_.rev_Sub x15_.gone)) cp63_)], vs ++ [(Value.slice a41_ (List.length (kvb x15_.ks x15_.vs x15_.kV_Create x15_.kV_Mod x15_.kV_Version x15_.kV_Lease)) cp42_)]⟩, ⟨_, congrArg (fun e => mkA 37 e []) (ch (ch (ch (ch (ch (ch (ch rfl rfl) rfl) rfl) rfl) rfl) rfl) (congrArg (Value.int .i64) ((by first | rfl | omega | (simp; done) | (simp; omega)) : (k : Int) + 1 = ((k + 1 : Nat) : Int)))), H107_, S85_, (hs102_), (by first | assumption | omega | exact rfl), (Bts.next h1 hs103_ hx19_ (RS.mono hr94_ hs97_)), (Bts.next h2 hs103_ hx19_ hr104_)⟩, by first | omega | (dsimp only; omega) | (simp; omega)⟩
  · have c12_fp : ¬ ((k : Int) < (zs.length : Int)) := of_decide_eq_false c12_f
    refine C_exit (X_thenX (X_thenX (X_blkHit ?_)))
    refine (X_then (hK3_ _ _ ?_))
    clear hK3_
    refine C_seq (fun K108_ hK108_ => ?_)
    refine C_reg ?_
    refine S_list (T_val (v := v1) (x_move rfl) ?_)
    refine S_list (T_val (v := v2) (x_move rfl) ?_)
    refine S_list (T_val (v := v1) (x_assign rfl) ?_)
    refine S_list (T_val (v := v2) (x_assign rfl) ?_)
    refine wpList_nil ?_
    refine (X_then (hK108_ _ _ ?_))
    clear hK108_
    refine C_ret ?_
    refine R_any (v := (Value.tuple #[v1, v2])) (run_results2 rfl rfl rfl) ?_
    have H109_ : Holds w7_ (ro R1 :: sl 43 1 v1 (List.length ks) ks :: sl 43 1 v2 (List.length vs) vs :: F) := (Holds.bring (Holds.bring (Holds.bring H8_ 1 rfl) 1 rfl) 2 rfl)
    exact ⟨R1, _, [sl 43 1 v1 (List.length ks) ks, sl 43 1 v2 (List.length vs) vs], rfl, hsR1, ⟨v1, v2, ks, vs, rfl, rfl, (by have := hZ.1; rw [List.take_of_length_le (by omega)] at h1; exact h1), (by have := hZ.1; rw [List.take_of_length_le (by omega)] at h2; exact h2)⟩, S9_, H109_⟩
end Go.Proofs.Ytgeggiebefonhaa
