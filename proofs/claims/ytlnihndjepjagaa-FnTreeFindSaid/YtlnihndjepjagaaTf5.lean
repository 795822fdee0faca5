/- Words, and proved steps, on which the proof leans. -/
import Derived.Test.YtlnihndjepjagaaTf4
set_option linter.unusedVariables false
set_option linter.unusedSimpArgs false
namespace Go.Proofs.Ytlnihndjepjagaa
open Go Go.RowKit Gw
open Go.Value renaming int → vI, bool → vB, slice → vS, pointer → vP, agg → vA, tuple → vT

set_option maxHeartbeats 1600000 in
theorem spIn (R : HP) (ord : Int) (s : SN) (hok : SnOk ord s) :
    TriG Try.prog 85 #[(vI .i64 ord), (vA #[(Value.string s.in__Begin), (Value.string s.in__End), (vB s.in__Point), (vI .i64 s.from_), (vI .i64 s.till)])] R [] (fun R' v__ post__ => ∃ (t1 t2 : TypeId) (x1 x2 : Value), v__ = (vA #[((Value.iface t1 x1)), ((Value.iface t2 x2))]) ∧ post__ = [] ∧ (EVal ord R' (Value.iface t1 x1) (s.lo ord)) ∧ (EVal ord R' (Value.iface t2 x2) (s.hi ord))) := by
 have hb_ := hok.b
 have he_ := hok.e
 have ho1_ := hok.o
 have hlb_ := ints_length s.in__Begin
 refine TriG.into (n := 68) (al := [(vI .i64 ord), (vA #[(Value.string s.in__Begin), (Value.string s.in__End), (vB s.in__Point), (vI .i64 s.from_), (vI .i64 s.till)])]) Try.func85 rfl Try.ntmps85 rfl rfl fun w F H => ?_
 refine C_seq (fun K1_ hK1_ => C_reg ?_)
 refine S_list (T_box (v := (vA #[(Value.string s.in__Begin), (Value.string s.in__End), (vB s.in__Point), (vI .i64 s.from_), (vI .i64 s.till)])) rfl H ?_)
 intro b2_ w3_ S5_ H4_
 have S6_ := Same.trans (Same.refl w) S5_
 refine S_list (T_alloc z111 H4_ ?_)
 intro b7_ w8_ S10_ H9_
 have S11_ := Same.trans S6_ S10_
 refine wpList_nil (X_then (hK1_ _ _ ?_))
 clear hK1_
 refine C_seq (fun K12_ hK12_ => ?_)
 refine C_seq (fun K13_ hK13_ => C_reg ?_)
 refine sv (v := (vI .i64 ord)) (x_move rfl) ?_
 refine wpList_nil (X_then (hK13_ _ _ ?_))
 clear hK13_
 refine C_block ?_
 refine C_seq (fun K14_ hK14_ => C_reg ?_)
 refine sv (v := (vB (decide (ord = 1)))) (x_bin rfl rfl rfl) ?_
 refine sv (v := (vB (decide (ord = 1)))) (x_assign rfl) ?_
 refine wpList_nil (X_then (hK14_ _ _ ?_))
 clear hK14_
 refine C_cond (b := decide (ord = 1)) rfl (fun c15_t => ?_) (fun c15_f => ?_)
 ·have c15_tp : ord = 1 := of_decide_eq_true c15_t
  refine C_seq (fun K16_ hK16_ => ?_)
  refine C_seq (fun K17_ hK17_ => C_reg ?_)
  refine sv (v := (vQ b2_)) (by kernel_rfl) ?_
  refine sv (v := (vP (some ⟨b2_, 2, none⟩))) (by kernel_rfl) ?_
  refine sv (v := (vB s.in__Point)) (x_load1 rfl Try.underlying4 rfl ((Holds.rd H9_ 1 rfl) 2 (vB s.in__Point) rfl)) ?_
  refine wpList_nil (X_then (hK17_ _ _ ?_))
  clear hK17_
  refine C_cond (b := s.in__Point) rfl (fun c18_t => ?_) (fun c18_f => ?_)
  ·skip
   refine C_seq (fun K19_ hK19_ => C_reg ?_)
   refine sv (v := (vQ b2_)) (by kernel_rfl) ?_
   refine sv (v := (vQ b2_)) (by kernel_rfl) ?_
   refine sv (v := (Value.string s.in__Begin)) (x_load1 rfl Try.underlying9 rfl ((Holds.rd H9_ 1 rfl) 0 (Value.string s.in__Begin) rfl)) ?_
   refine S_list (T_callW (al := [(Value.string s.in__Begin)]) rfl rfl cb89 (Calls.into (n := 7) (al := [(Value.string s.in__Begin)]) Try.func89 rfl Try.ntmps89 rfl rfl ?_))
   refine C_seq (fun K20_ hK20_ => C_reg ?_)
   refine S_list (T_alloc z111 H9_ ?_)
   intro b21_ w22_ S24_ H23_
   have S25_ := Same.trans S11_ S24_
   refine wpList_nil (X_then (hK20_ _ _ ?_))
   clear hK20_
   refine C_seq (fun K26_ hK26_ => C_reg ?_)
   refine sv (v := (Value.string s.in__Begin)) (x_move rfl) ?_
   refine sv (v := (Value.string s.in__Begin)) (x_move rfl) ?_
   refine sv (v := (Value.string (s.in__Begin ++ (ByteArray.mk #[0])))) (x_str rfl rfl (so_add (by have h1__ : (ByteArray.mk #[0]).size = 1 := rfl; omega)) (by decide)) ?_
   refine S_list (T_callW (al := [(Value.string s.in__Begin), (Value.string (s.in__Begin ++ (ByteArray.mk #[0])))]) rfl rfl cb52 (Calls.into (n := 10) (al := [(Value.string s.in__Begin), (Value.string (s.in__Begin ++ (ByteArray.mk #[0])))]) Try.func52 rfl Try.ntmps52 rfl rfl ?_))
   refine C_seq (fun K27_ hK27_ => C_reg ?_)
   refine S_list (T_alloc z111 H23_ ?_)
   intro b28_ w29_ S31_ H30_
   have S32_ := Same.trans S25_ S31_
   refine wpList_nil (X_then (hK27_ _ _ ?_))
   clear hK27_
   refine C_seq (fun K33_ hK33_ => C_reg ?_)
   refine sv (v := (Value.string s.in__Begin)) (x_move rfl) ?_
   refine sv (v := (Value.iface 166 (Value.string s.in__Begin))) (by kernel_rfl) ?_
   refine sv (v := (Value.string (s.in__Begin ++ (ByteArray.mk #[0])))) (x_move rfl) ?_
   refine sv (v := (Value.iface 166 (Value.string (s.in__Begin ++ (ByteArray.mk #[0]))))) (by kernel_rfl) ?_
   refine sv (v := (vA #[(Value.iface 166 (Value.string s.in__Begin)), (Value.iface 166 (Value.string (s.in__Begin ++ (ByteArray.mk #[0]))))])) (by kernel_rfl) ?_
   refine S_list0 (T_storeN (vs := [(Value.iface 166 (Value.string s.in__Begin)), (Value.iface 166 (Value.string (s.in__Begin ++ (ByteArray.mk #[0]))))]) rfl rfl z111 rfl (by simp [Value.oneCell']) H30_ 0 rfl (Nat.le_of_ble_eq_true (by rfl)) ?_)
   intro w34_ S36_ H35_
   have S37_ := Same.trans S32_ S36_
   refine wpList_nil (X_then (hK33_ _ _ ?_))
   clear hK33_
   refine C_ret ?_
   refine R_any (v := (vA #[(Value.iface 166 (Value.string s.in__Begin)), (Value.iface 166 (Value.string (s.in__Begin ++ (ByteArray.mk #[0]))))])) (run_results1 rfl ⟨_, rfl, load_resN Try.underlying111 rfl z111 rfl (vs := [(Value.iface 166 (Value.string s.in__Begin)), (Value.iface 166 (Value.string (s.in__Begin ++ (ByteArray.mk #[0]))))]) (Holds.cl_cells H35_ 0 rfl 0 rfl)⟩) ⟨_, rfl, ?_⟩
   refine S_list0 (T_storeN (vs := [(Value.iface 166 (Value.string s.in__Begin)), (Value.iface 166 (Value.string (s.in__Begin ++ (ByteArray.mk #[0]))))]) rfl rfl z111 rfl (by simp [Value.oneCell']) H35_ 1 rfl (Nat.le_of_ble_eq_true (by rfl)) ?_)
   intro w38_ S40_ H39_
   have S41_ := Same.trans S37_ S40_
   refine wpList_nil (X_then (hK26_ _ _ ?_))
   clear hK26_
   refine C_ret ?_
   refine R_any (v := (vA #[(Value.iface 166 (Value.string s.in__Begin)), (Value.iface 166 (Value.string (s.in__Begin ++ (ByteArray.mk #[0]))))])) (run_results1 rfl ⟨_, rfl, load_resN Try.underlying111 rfl z111 rfl (vs := [(Value.iface 166 (Value.string s.in__Begin)), (Value.iface 166 (Value.string (s.in__Begin ++ (ByteArray.mk #[0]))))]) (Holds.cl_cells H39_ 1 rfl 0 rfl)⟩) ⟨_, rfl, ?_⟩
   refine S_list0 (T_storeN (vs := [(Value.iface 166 (Value.string s.in__Begin)), (Value.iface 166 (Value.string (s.in__Begin ++ (ByteArray.mk #[0]))))]) rfl rfl z111 rfl (by simp [Value.oneCell']) H39_ 2 rfl (Nat.le_of_ble_eq_true (by rfl)) ?_)
   intro w42_ S44_ H43_
   have S45_ := Same.trans S41_ S44_
   refine wpList_nil (X_then (hK19_ _ _ ?_))
   clear hK19_
   refine C_ret (X_thenR (X_blkR (X_thenR ?_)))
   refine R_any (v := (vA #[(Value.iface 166 (Value.string s.in__Begin)), (Value.iface 166 (Value.string (s.in__Begin ++ (ByteArray.mk #[0]))))])) (run_results1 rfl ⟨_, rfl, load_resN Try.underlying111 rfl z111 rfl (vs := [(Value.iface 166 (Value.string s.in__Begin)), (Value.iface 166 (Value.string (s.in__Begin ++ (ByteArray.mk #[0]))))]) (Holds.cl_cells H43_ 2 rfl 0 rfl)⟩) ?_
   have ho_ : ord = 1 := by omega
   have H46_ : Holds w42_ (ro R :: F) := (Holds.pkF H43_ [4] 4 :)
   exact ⟨R, _, _, rfl, (Sub.rfl' _), ⟨166, 166, (Value.string s.in__Begin), (Value.string (s.in__Begin ++ (ByteArray.mk #[0]))), (congrArg (fun l => vA (List.toArray l)) (lcons (rfl : (Value.iface 166 (Value.string s.in__Begin)) = ((Value.iface 166 (Value.string s.in__Begin)))) (lcons (rfl : (Value.iface 166 (Value.string (s.in__Begin ++ (ByteArray.mk #[0])))) = ((Value.iface 166 (Value.string (s.in__Begin ++ (ByteArray.mk #[0])))))) rfl))), rfl, (.inr (.inl ⟨ho_, _, rfl, lo_text (by rw [ho_]; decide)⟩)), (.inr (.inl ⟨ho_, _, rfl, hi_point (by rw [ho_]; decide) c18_t⟩))⟩, S45_, H46_⟩
  ·skip
   refine C_skip (X_then (hK16_ _ _ ?_))
   clear hK16_
   refine C_seq (fun K47_ hK47_ => C_reg ?_)
   refine sv (v := (vQ b2_)) (by kernel_rfl) ?_
   refine sv (v := (vQ b2_)) (by kernel_rfl) ?_
   refine sv (v := (Value.string s.in__Begin)) (x_load1 rfl Try.underlying9 rfl ((Holds.rd H9_ 1 rfl) 0 (Value.string s.in__Begin) rfl)) ?_
   refine sv (v := (vQ b2_)) (by kernel_rfl) ?_
   refine sv (v := (vP (some ⟨b2_, 1, none⟩))) (by kernel_rfl) ?_
   refine sv (v := (Value.string s.in__End)) (x_load1 rfl Try.underlying9 rfl ((Holds.rd H9_ 1 rfl) 1 (Value.string s.in__End) rfl)) ?_
   refine S_list (T_callW (al := [(Value.string s.in__Begin), (Value.string s.in__End)]) rfl rfl cb52 (Calls.into (n := 10) (al := [(Value.string s.in__Begin), (Value.string s.in__End)]) Try.func52 rfl Try.ntmps52 rfl rfl ?_))
   refine C_seq (fun K48_ hK48_ => C_reg ?_)
   refine S_list (T_alloc z111 H9_ ?_)
   intro b49_ w50_ S52_ H51_
   have S53_ := Same.trans S11_ S52_
   refine wpList_nil (X_then (hK48_ _ _ ?_))
   clear hK48_
   refine C_seq (fun K54_ hK54_ => C_reg ?_)
   refine sv (v := (Value.string s.in__Begin)) (x_move rfl) ?_
   refine sv (v := (Value.iface 166 (Value.string s.in__Begin))) (by kernel_rfl) ?_
   refine sv (v := (Value.string s.in__End)) (x_move rfl) ?_
   refine sv (v := (Value.iface 166 (Value.string s.in__End))) (by kernel_rfl) ?_
   refine sv (v := (vA #[(Value.iface 166 (Value.string s.in__Begin)), (Value.iface 166 (Value.string s.in__End))])) (by kernel_rfl) ?_
   refine S_list0 (T_storeN (vs := [(Value.iface 166 (Value.string s.in__Begin)), (Value.iface 166 (Value.string s.in__End))]) rfl rfl z111 rfl (by simp [Value.oneCell']) H51_ 0 rfl (Nat.le_of_ble_eq_true (by rfl)) ?_)
   intro w55_ S57_ H56_
   have S58_ := Same.trans S53_ S57_
   refine wpList_nil (X_then (hK54_ _ _ ?_))
   clear hK54_
   refine C_ret ?_
   refine R_any (v := (vA #[(Value.iface 166 (Value.string s.in__Begin)), (Value.iface 166 (Value.string s.in__End))])) (run_results1 rfl ⟨_, rfl, load_resN Try.underlying111 rfl z111 rfl (vs := [(Value.iface 166 (Value.string s.in__Begin)), (Value.iface 166 (Value.string s.in__End))]) (Holds.cl_cells H56_ 0 rfl 0 rfl)⟩) ⟨_, rfl, ?_⟩
   refine S_list0 (T_storeN (vs := [(Value.iface 166 (Value.string s.in__Begin)), (Value.iface 166 (Value.string s.in__End))]) rfl rfl z111 rfl (by simp [Value.oneCell']) H56_ 1 rfl (Nat.le_of_ble_eq_true (by rfl)) ?_)
   intro w59_ S61_ H60_
   have S62_ := Same.trans S58_ S61_
   refine wpList_nil (X_then (hK47_ _ _ ?_))
   clear hK47_
   refine C_ret (X_blkR (X_thenR ?_))
   refine R_any (v := (vA #[(Value.iface 166 (Value.string s.in__Begin)), (Value.iface 166 (Value.string s.in__End))])) (run_results1 rfl ⟨_, rfl, load_resN Try.underlying111 rfl z111 rfl (vs := [(Value.iface 166 (Value.string s.in__Begin)), (Value.iface 166 (Value.string s.in__End))]) (Holds.cl_cells H60_ 1 rfl 0 rfl)⟩) ?_
   have ho_ : ord = 1 := by omega
   have H63_ : Holds w59_ (ro R :: F) := (Holds.pkF H60_ [3] 3 :)
   exact ⟨R, _, _, rfl, (Sub.rfl' _), ⟨166, 166, (Value.string s.in__Begin), (Value.string s.in__End), (congrArg (fun l => vA (List.toArray l)) (lcons (rfl : (Value.iface 166 (Value.string s.in__Begin)) = ((Value.iface 166 (Value.string s.in__Begin)))) (lcons (rfl : (Value.iface 166 (Value.string s.in__End)) = ((Value.iface 166 (Value.string s.in__End)))) rfl))), rfl, (.inr (.inl ⟨ho_, _, rfl, lo_text (by rw [ho_]; decide)⟩)), (.inr (.inl ⟨ho_, _, rfl, hi_text (by rw [ho_]; decide) c18_f⟩))⟩, S62_, H63_⟩
 ·have c15_fp : ¬ (ord = 1) := of_decide_eq_false c15_f
  refine C_seq (fun K64_ hK64_ => C_reg ?_)
  refine sv (v := (vB (decide (ord = 2)))) (x_bin rfl rfl rfl) ?_
  refine sv (v := (vB (decide (ord = 2)))) (x_assign rfl) ?_
  refine wpList_nil (X_then (hK64_ _ _ ?_))
  clear hK64_
  refine C_cond (b := decide (ord = 2)) rfl (fun c65_t => ?_) (fun c65_f => ?_)
  ·have c65_tp : ord = 2 := of_decide_eq_true c65_t
   refine C_seq (fun K66_ hK66_ => ?_)
   refine C_seq (fun K67_ hK67_ => C_reg ?_)
   refine sv (v := (vQ b2_)) (by kernel_rfl) ?_
   refine sv (v := (vP (some ⟨b2_, 2, none⟩))) (by kernel_rfl) ?_
   refine sv (v := (vB s.in__Point)) (x_load1 rfl Try.underlying4 rfl ((Holds.rd H9_ 1 rfl) 2 (vB s.in__Point) rfl)) ?_
   refine wpList_nil (X_then (hK67_ _ _ ?_))
   clear hK67_
   refine C_cond (b := s.in__Point) rfl (fun c68_t => ?_) (fun c68_f => ?_)
   ·skip
    refine C_seq (fun K69_ hK69_ => C_reg ?_)
    refine sv (v := (vQ b2_)) (by kernel_rfl) ?_
    refine sv (v := (vQ b2_)) (by kernel_rfl) ?_
    refine sv (v := (Value.string s.in__Begin)) (x_load1 rfl Try.underlying9 rfl ((Holds.rd H9_ 1 rfl) 0 (Value.string s.in__Begin) rfl)) ?_
    refine S_list (T_s2b rfl Try.underlying9 Try.underlying122 Try.underlying5 H9_ ?_)
    intro b70_ cp71_ w72_ S74_ hc75_ H73_
    have S76_ := Same.trans S11_ S74_
    have H77_ := Holds.resl H73_ 0 rfl (byteCells_bytesV _ : byteCells s.in__Begin = bytesV (ints s.in__Begin)) rfl
    have H78_ := Holds.resl H77_ 0 rfl (rfl : bytesV (ints s.in__Begin) = bytesV (ints s.in__Begin)) ((ints_length _).symm : s.in__Begin.size = (List.length (ints s.in__Begin)))
    have H79_ := ((Holds.bring H78_ 3 rfl) :)
    obtain ⟨R80_, hs81_, ⟨R82_, ha83_, hs84_⟩, H85_⟩ := Holds.gift H79_
    have hr86_ : RS R80_ 1 (vS (some ⟨b70_, 0, none⟩) s.in__Begin.size cp71_) (List.length (ints s.in__Begin)) (bytesV (ints s.in__Begin)) := (sl_RS ha83_ (Sub.rfl' _)).mono hs84_
    refine S_list (T_call (al := [((vS (some ⟨b70_, 0, none⟩) s.in__Begin.size cp71_))]) (pre := []) rfl (lcons (rfl : (vS (some ⟨b70_, 0, none⟩) s.in__Begin.size cp71_) = ((vS (some ⟨b70_, 0, none⟩) s.in__Begin.size cp71_))) rfl) cb102 (bPoint R80_ (vS (some ⟨b70_, 0, none⟩) s.in__Begin.size cp71_) (ints s.in__Begin) hr86_ (by first | assumption | omega)) H85_ ?_)
    rintro v87_ p92_ w89_ ⟨b88_, rfl, rfl⟩ S91_ H90_
    have S93_ := Same.trans S76_ S91_
    refine S_list0 (T_storeN (vs := [(Value.iface 168 ((vS (some ⟨b70_, 0, none⟩) s.in__Begin.size cp71_))), (Value.iface 168 (vS (some ⟨b88_, 0, none⟩) ((ints s.in__Begin).length + 1) ((ints s.in__Begin).length + 1)))]) rfl rfl z111 rfl (by simp [Value.oneCell']) H90_ 2 rfl (Nat.le_of_ble_eq_true (by rfl)) ?_)
    intro w94_ S96_ H95_
    have S97_ := Same.trans S93_ S96_
    refine wpList_nil (X_then (hK69_ _ _ ?_))
    clear hK69_
    refine C_ret (X_thenR (X_blkR (X_thenR ?_)))
    refine R_any (v := (vA #[(Value.iface 168 ((vS (some ⟨b70_, 0, none⟩) s.in__Begin.size cp71_))), (Value.iface 168 (vS (some ⟨b88_, 0, none⟩) ((ints s.in__Begin).length + 1) ((ints s.in__Begin).length + 1)))])) (run_results1 rfl ⟨_, rfl, load_resN Try.underlying111 rfl z111 rfl (vs := [(Value.iface 168 ((vS (some ⟨b70_, 0, none⟩) s.in__Begin.size cp71_))), (Value.iface 168 (vS (some ⟨b88_, 0, none⟩) ((ints s.in__Begin).length + 1) ((ints s.in__Begin).length + 1)))]) (Holds.cl_cells H95_ 2 rfl 0 rfl)⟩) ?_
    have ho_ : ord = 2 := by omega
    obtain ⟨R98_, hs99_, ⟨R100_, ha101_, hs102_⟩, H103_⟩ := Holds.gift H95_
    have hz_R_R98_ := Sub.trans' hs81_ hs99_
    have hr104_ : RS R98_ 1 (vS (some ⟨b88_, 0, none⟩) ((ints s.in__Begin).length + 1) ((ints s.in__Begin).length + 1)) (List.length (ints s.in__Begin ++ [0])) (bytesV (ints s.in__Begin ++ [0])) := (RS.set_ (cl_RSn (sz := 1) (k := (List.length (ints s.in__Begin) + 1)) ha101_ (Sub.rfl' _) (by simp [bytesV_len]) (by omega)) rfl (by simp)).mono hs102_
    have H105_ : Holds w94_ (ro R98_ :: F) := (Holds.pkF H103_ [0] 2 :)
    exact ⟨R98_, _, _, rfl, hz_R_R98_, ⟨168, 168, ((vS (some ⟨b70_, 0, none⟩) s.in__Begin.size cp71_)), (vS (some ⟨b88_, 0, none⟩) ((ints s.in__Begin).length + 1) ((ints s.in__Begin).length + 1)), (congrArg (fun l => vA (List.toArray l)) (lcons (rfl : (Value.iface 168 ((vS (some ⟨b70_, 0, none⟩) s.in__Begin.size cp71_))) = ((Value.iface 168 ((vS (some ⟨b70_, 0, none⟩) s.in__Begin.size cp71_))))) (lcons (rfl : (Value.iface 168 (vS (some ⟨b88_, 0, none⟩) ((ints s.in__Begin).length + 1) ((ints s.in__Begin).length + 1))) = ((Value.iface 168 (vS (some ⟨b88_, 0, none⟩) ((ints s.in__Begin).length + 1) ((ints s.in__Begin).length + 1))))) rfl))), rfl, (.inr (.inr (.inl ⟨ho_, _, ints s.in__Begin, rfl, (RS.mono hr86_ hs99_), (lo_text (by rw [ho_]; decide)).trans (congrArg EK.t (u8s_ints _).symm)⟩))), (.inr (.inr (.inl ⟨ho_, _, ints s.in__Begin ++ [0], rfl, hr104_, (hi_point (by rw [ho_]; decide) c68_t).trans (congrArg EK.t (ints_app0 _).symm)⟩)))⟩, S97_, H105_⟩
   ·skip
    refine C_skip (X_then (hK66_ _ _ ?_))
    clear hK66_
    refine C_seq (fun K106_ hK106_ => C_reg ?_)
    refine sv (v := (vQ b2_)) (by kernel_rfl) ?_
    refine sv (v := (vQ b2_)) (by kernel_rfl) ?_
    refine sv (v := (Value.string s.in__Begin)) (x_load1 rfl Try.underlying9 rfl ((Holds.rd H9_ 1 rfl) 0 (Value.string s.in__Begin) rfl)) ?_
    refine S_list (T_s2b rfl Try.underlying9 Try.underlying122 Try.underlying5 H9_ ?_)
    intro b107_ cp108_ w109_ S111_ hc112_ H110_
    have S113_ := Same.trans S11_ S111_
    have H114_ := Holds.resl H110_ 0 rfl (byteCells_bytesV _ : byteCells s.in__Begin = bytesV (ints s.in__Begin)) rfl
    have H115_ := Holds.resl H114_ 0 rfl (rfl : bytesV (ints s.in__Begin) = bytesV (ints s.in__Begin)) ((ints_length _).symm : s.in__Begin.size = (List.length (ints s.in__Begin)))
    refine sv (v := (vQ b2_)) (by kernel_rfl) ?_
    refine sv (v := (vP (some ⟨b2_, 1, none⟩))) (by kernel_rfl) ?_
    refine sv (v := (Value.string s.in__End)) (x_load1 rfl Try.underlying9 rfl ((Holds.rd H115_ 2 rfl) 1 (Value.string s.in__End) rfl)) ?_
    refine S_list (T_s2b rfl Try.underlying9 Try.underlying122 Try.underlying5 H115_ ?_)
    intro b116_ cp117_ w118_ S120_ hc121_ H119_
    have S122_ := Same.trans S113_ S120_
    have H123_ := Holds.resl H119_ 0 rfl (byteCells_bytesV _ : byteCells s.in__End = bytesV (ints s.in__End)) rfl
    have H124_ := Holds.resl H123_ 0 rfl (rfl : bytesV (ints s.in__End) = bytesV (ints s.in__End)) ((ints_length _).symm : s.in__End.size = (List.length (ints s.in__End)))
    refine S_list (T_callW (al := [(vS (some ⟨b107_, 0, none⟩) s.in__Begin.size cp108_), (vS (some ⟨b116_, 0, none⟩) s.in__End.size cp117_)]) rfl rfl cb101 (Calls.into (n := 10) (al := [(vS (some ⟨b107_, 0, none⟩) s.in__Begin.size cp108_), (vS (some ⟨b116_, 0, none⟩) s.in__End.size cp117_)]) Try.func101 rfl Try.ntmps101 rfl rfl ?_))
    refine C_seq (fun K125_ hK125_ => C_reg ?_)
    refine S_list (T_alloc z111 H124_ ?_)
    intro b126_ w127_ S129_ H128_
    have S130_ := Same.trans S122_ S129_
    refine wpList_nil (X_then (hK125_ _ _ ?_))
    clear hK125_
    refine C_seq (fun K131_ hK131_ => C_reg ?_)
    refine sv (v := (vS (some ⟨b107_, 0, none⟩) s.in__Begin.size cp108_)) (x_move rfl) ?_
    refine sv (v := (Value.iface 168 (vS (some ⟨b107_, 0, none⟩) s.in__Begin.size cp108_))) (by kernel_rfl) ?_
    refine sv (v := (vS (some ⟨b116_, 0, none⟩) s.in__End.size cp117_)) (x_move rfl) ?_
    refine sv (v := (Value.iface 168 (vS (some ⟨b116_, 0, none⟩) s.in__End.size cp117_))) (by kernel_rfl) ?_
    refine sv (v := (vA #[(Value.iface 168 (vS (some ⟨b107_, 0, none⟩) s.in__Begin.size cp108_)), (Value.iface 168 (vS (some ⟨b116_, 0, none⟩) s.in__End.size cp117_))])) (by kernel_rfl) ?_
    refine S_list0 (T_storeN (vs := [(Value.iface 168 (vS (some ⟨b107_, 0, none⟩) s.in__Begin.size cp108_)), (Value.iface 168 (vS (some ⟨b116_, 0, none⟩) s.in__End.size cp117_))]) rfl rfl z111 rfl (by simp [Value.oneCell']) H128_ 0 rfl (Nat.le_of_ble_eq_true (by rfl)) ?_)
    intro w132_ S134_ H133_
    have S135_ := Same.trans S130_ S134_
    refine wpList_nil (X_then (hK131_ _ _ ?_))
    clear hK131_
    refine C_ret ?_
    refine R_any (v := (vA #[(Value.iface 168 (vS (some ⟨b107_, 0, none⟩) s.in__Begin.size cp108_)), (Value.iface 168 (vS (some ⟨b116_, 0, none⟩) s.in__End.size cp117_))])) (run_results1 rfl ⟨_, rfl, load_resN Try.underlying111 rfl z111 rfl (vs := [(Value.iface 168 (vS (some ⟨b107_, 0, none⟩) s.in__Begin.size cp108_)), (Value.iface 168 (vS (some ⟨b116_, 0, none⟩) s.in__End.size cp117_))]) (Holds.cl_cells H133_ 0 rfl 0 rfl)⟩) ⟨_, rfl, ?_⟩
    refine S_list0 (T_storeN (vs := [(Value.iface 168 (vS (some ⟨b107_, 0, none⟩) s.in__Begin.size cp108_)), (Value.iface 168 (vS (some ⟨b116_, 0, none⟩) s.in__End.size cp117_))]) rfl rfl z111 rfl (by simp [Value.oneCell']) H133_ 3 rfl (Nat.le_of_ble_eq_true (by rfl)) ?_)
    intro w136_ S138_ H137_
    have S139_ := Same.trans S135_ S138_
    refine wpList_nil (X_then (hK106_ _ _ ?_))
    clear hK106_
    refine C_ret (X_blkR (X_thenR ?_))
    refine R_any (v := (vA #[(Value.iface 168 (vS (some ⟨b107_, 0, none⟩) s.in__Begin.size cp108_)), (Value.iface 168 (vS (some ⟨b116_, 0, none⟩) s.in__End.size cp117_))])) (run_results1 rfl ⟨_, rfl, load_resN Try.underlying111 rfl z111 rfl (vs := [(Value.iface 168 (vS (some ⟨b107_, 0, none⟩) s.in__Begin.size cp108_)), (Value.iface 168 (vS (some ⟨b116_, 0, none⟩) s.in__End.size cp117_))]) (Holds.cl_cells H137_ 3 rfl 0 rfl)⟩) ?_
    have ho_ : ord = 2 := by omega
    have H140_ := ((Holds.bring (Holds.bring H137_ 2 rfl) 5 rfl) :)
    obtain ⟨R141_, hs142_, ⟨R143_, ha144_, hs145_⟩, H146_⟩ := Holds.gift H140_
    have hr147_ : RS R141_ 1 (vS (some ⟨b107_, 0, none⟩) s.in__Begin.size cp108_) (List.length (ints s.in__Begin)) (bytesV (ints s.in__Begin)) := (sl_RS ha144_ (Sub.rfl' _)).mono hs145_
    have H148_ := ((Holds.bring (Holds.bring H146_ 2 rfl) 1 rfl) :)
    obtain ⟨R149_, hs150_, ⟨R151_, ha152_, hs153_⟩, H154_⟩ := Holds.gift H148_
    have hz_R_R149_ := Sub.trans' hs142_ hs150_
    have hr155_ : RS R149_ 1 (vS (some ⟨b116_, 0, none⟩) s.in__End.size cp117_) (List.length (ints s.in__End)) (bytesV (ints s.in__End)) := (sl_RS ha152_ (Sub.rfl' _)).mono hs153_
    have H156_ : Holds w136_ (ro R149_ :: F) := (Holds.pkF H154_ [0] 3 :)
    exact ⟨R149_, _, _, rfl, hz_R_R149_, ⟨168, 168, (vS (some ⟨b107_, 0, none⟩) s.in__Begin.size cp108_), (vS (some ⟨b116_, 0, none⟩) s.in__End.size cp117_), (congrArg (fun l => vA (List.toArray l)) (lcons (rfl : (Value.iface 168 (vS (some ⟨b107_, 0, none⟩) s.in__Begin.size cp108_)) = ((Value.iface 168 (vS (some ⟨b107_, 0, none⟩) s.in__Begin.size cp108_)))) (lcons (rfl : (Value.iface 168 (vS (some ⟨b116_, 0, none⟩) s.in__End.size cp117_)) = ((Value.iface 168 (vS (some ⟨b116_, 0, none⟩) s.in__End.size cp117_)))) rfl))), rfl, (.inr (.inr (.inl ⟨ho_, _, ints s.in__Begin, rfl, (RS.mono hr147_ hs150_), (lo_text (by rw [ho_]; decide)).trans (congrArg EK.t (u8s_ints _).symm)⟩))), (.inr (.inr (.inl ⟨ho_, _, ints s.in__End, rfl, hr155_, (hi_text (by rw [ho_]; decide) c68_f).trans (congrArg EK.t (u8s_ints _).symm)⟩)))⟩, S139_, H156_⟩
  ·have c65_fp : ¬ (ord = 2) := of_decide_eq_false c65_f
   refine C_seq (fun K157_ hK157_ => C_reg ?_)
   refine sv (v := (vB (decide (ord = 3)))) (x_bin rfl rfl rfl) ?_
   refine sv (v := (vB (decide (ord = 3)))) (x_assign rfl) ?_
   refine wpList_nil (X_then (hK157_ _ _ ?_))
   clear hK157_
   refine C_cond (b := decide (ord = 3)) rfl (fun c158_t => ?_) (fun c158_f => ?_)
   ·have c158_tp : ord = 3 := of_decide_eq_true c158_t
    refine C_seq (fun K159_ hK159_ => ?_)
    refine C_seq (fun K160_ hK160_ => C_reg ?_)
    refine sv (v := (vQ b2_)) (by kernel_rfl) ?_
    refine sv (v := (vP (some ⟨b2_, 2, none⟩))) (by kernel_rfl) ?_
    refine sv (v := (vB s.in__Point)) (x_load1 rfl Try.underlying4 rfl ((Holds.rd H9_ 1 rfl) 2 (vB s.in__Point) rfl)) ?_
    refine wpList_nil (X_then (hK160_ _ _ ?_))
    clear hK160_
    refine C_cond (b := s.in__Point) rfl (fun c161_t => ?_) (fun c161_f => ?_)
    ·skip
     exact absurd (hok.n (by omega)).1 (by rw [c161_t]; decide)
    ·skip
     refine C_skip (X_then (hK159_ _ _ ?_))
     clear hK159_
     refine C_seq (fun K162_ hK162_ => C_reg ?_)
     refine sv (v := (vP (some ⟨b2_, 3, none⟩))) (by kernel_rfl) ?_
     refine sv (v := (vI .i64 s.from_)) (x_load1 rfl Try.underlying2 rfl ((Holds.rd H9_ 1 rfl) 3 (vI .i64 s.from_) rfl)) ?_
     refine sv (v := (vP (some ⟨b2_, 4, none⟩))) (by kernel_rfl) ?_
     refine sv (v := (vI .i64 s.till)) (x_load1 rfl Try.underlying2 rfl ((Holds.rd H9_ 1 rfl) 4 (vI .i64 s.till) rfl)) ?_
     refine S_list (T_callW (al := [(vI .i64 s.from_), (vI .i64 s.till)]) rfl rfl cb106 (Calls.into (n := 10) (al := [(vI .i64 s.from_), (vI .i64 s.till)]) Try.func106 rfl Try.ntmps106 rfl rfl ?_))
     refine C_seq (fun K163_ hK163_ => C_reg ?_)
     refine S_list (T_alloc z111 H9_ ?_)
     intro b164_ w165_ S167_ H166_
     have S168_ := Same.trans S11_ S167_
     refine wpList_nil (X_then (hK163_ _ _ ?_))
     clear hK163_
     refine C_seq (fun K169_ hK169_ => C_reg ?_)
     refine sv (v := (vI .i64 s.from_)) (x_move rfl) ?_
     refine sv (v := (Value.iface 169 (vI .i64 s.from_))) (by kernel_rfl) ?_
     refine sv (v := (vI .i64 s.till)) (x_move rfl) ?_
     refine sv (v := (Value.iface 169 (vI .i64 s.till))) (by kernel_rfl) ?_
     refine sv (v := (vA #[(Value.iface 169 (vI .i64 s.from_)), (Value.iface 169 (vI .i64 s.till))])) (by kernel_rfl) ?_
     refine S_list0 (T_storeN (vs := [(Value.iface 169 (vI .i64 s.from_)), (Value.iface 169 (vI .i64 s.till))]) rfl rfl z111 rfl (by simp [Value.oneCell']) H166_ 0 rfl (Nat.le_of_ble_eq_true (by rfl)) ?_)
     intro w170_ S172_ H171_
     have S173_ := Same.trans S168_ S172_
     refine wpList_nil (X_then (hK169_ _ _ ?_))
     clear hK169_
     refine C_ret ?_
     refine R_any (v := (vA #[(Value.iface 169 (vI .i64 s.from_)), (Value.iface 169 (vI .i64 s.till))])) (run_results1 rfl ⟨_, rfl, load_resN Try.underlying111 rfl z111 rfl (vs := [(Value.iface 169 (vI .i64 s.from_)), (Value.iface 169 (vI .i64 s.till))]) (Holds.cl_cells H171_ 0 rfl 0 rfl)⟩) ⟨_, rfl, ?_⟩
     refine S_list0 (T_storeN (vs := [(Value.iface 169 (vI .i64 s.from_)), (Value.iface 169 (vI .i64 s.till))]) rfl rfl z111 rfl (by simp [Value.oneCell']) H171_ 1 rfl (Nat.le_of_ble_eq_true (by rfl)) ?_)
     intro w174_ S176_ H175_
     have S177_ := Same.trans S173_ S176_
     refine wpList_nil (X_then (hK162_ _ _ ?_))
     clear hK162_
     refine C_ret (X_blkR (X_thenR ?_))
     refine R_any (v := (vA #[(Value.iface 169 (vI .i64 s.from_)), (Value.iface 169 (vI .i64 s.till))])) (run_results1 rfl ⟨_, rfl, load_resN Try.underlying111 rfl z111 rfl (vs := [(Value.iface 169 (vI .i64 s.from_)), (Value.iface 169 (vI .i64 s.till))]) (Holds.cl_cells H175_ 1 rfl 0 rfl)⟩) ?_
     have ho_ : ord = 3 := by omega
     have H178_ : Holds w174_ (ro R :: F) := (Holds.pkF H175_ [3] 3 :)
     exact ⟨R, _, _, rfl, (Sub.rfl' _), ⟨169, 169, (vI .i64 s.from_), (vI .i64 s.till), (congrArg (fun l => vA (List.toArray l)) (lcons (rfl : (Value.iface 169 (vI .i64 s.from_)) = ((Value.iface 169 (vI .i64 s.from_)))) (lcons (rfl : (Value.iface 169 (vI .i64 s.till)) = ((Value.iface 169 (vI .i64 s.till)))) rfl))), rfl, (.inr (.inr (.inr ⟨ho_, _, rfl, by have := hok.n ho_; omega, by rw [ho_]; exact lo_num⟩))), (.inr (.inr (.inr ⟨ho_, _, rfl, by have := hok.n ho_; omega, by rw [ho_]; exact hi_num⟩)))⟩, S177_, H178_⟩
   ·have c158_fp : ¬ (ord = 3) := of_decide_eq_false c158_f
    refine C_skip (X_blkN (X_then (hK12_ _ _ ?_)))
    clear hK12_
    refine C_seq (fun K179_ hK179_ => ?_)
    refine C_seq (fun K180_ hK180_ => C_reg ?_)
    refine sv (v := (vQ b2_)) (by kernel_rfl) ?_
    refine sv (v := (vP (some ⟨b2_, 2, none⟩))) (by kernel_rfl) ?_
    refine sv (v := (vB s.in__Point)) (x_load1 rfl Try.underlying4 rfl ((Holds.rd H9_ 1 rfl) 2 (vB s.in__Point) rfl)) ?_
    refine wpList_nil (X_then (hK180_ _ _ ?_))
    clear hK180_
    refine C_cond (b := s.in__Point) rfl (fun c181_t => ?_) (fun c181_f => ?_)
    ·skip
     refine C_seq (fun K182_ hK182_ => C_reg ?_)
     refine sv (v := (vQ b2_)) (by kernel_rfl) ?_
     refine sv (v := (vQ b2_)) (by kernel_rfl) ?_
     refine sv (v := (Value.string s.in__Begin)) (x_load1 rfl Try.underlying9 rfl ((Holds.rd H9_ 1 rfl) 0 (Value.string s.in__Begin) rfl)) ?_
     refine S_list (T_callW (al := [(Value.string s.in__Begin)]) rfl rfl cb107 (Calls.into (n := 9) (al := [(Value.string s.in__Begin)]) Try.func107 rfl Try.ntmps107 rfl rfl ?_))
     refine C_seq (fun K183_ hK183_ => C_reg ?_)
     refine S_list (T_alloc z111 H9_ ?_)
     intro b184_ w185_ S187_ H186_
     have S188_ := Same.trans S11_ S187_
     refine wpList_nil (X_then (hK183_ _ _ ?_))
     clear hK183_
     refine C_seq (fun K189_ hK189_ => C_reg ?_)
     refine sv (v := (Value.string s.in__Begin)) (x_move rfl) ?_
     refine sv (v := (Value.iface 167 (Value.string s.in__Begin))) (by kernel_rfl) ?_
     refine sv (v := (Value.string s.in__Begin)) (x_move rfl) ?_
     refine sv (v := (Value.string (s.in__Begin ++ (ByteArray.mk #[0])))) (x_str rfl rfl (so_add (by have h1__ : (ByteArray.mk #[0]).size = 1 := rfl; omega)) (by decide)) ?_
     refine sv (v := (Value.iface 167 (Value.string (s.in__Begin ++ (ByteArray.mk #[0]))))) (by kernel_rfl) ?_
     refine sv (v := (vA #[(Value.iface 167 (Value.string s.in__Begin)), (Value.iface 167 (Value.string (s.in__Begin ++ (ByteArray.mk #[0]))))])) (by kernel_rfl) ?_
     refine S_list0 (T_storeN (vs := [(Value.iface 167 (Value.string s.in__Begin)), (Value.iface 167 (Value.string (s.in__Begin ++ (ByteArray.mk #[0]))))]) rfl rfl z111 rfl (by simp [Value.oneCell']) H186_ 0 rfl (Nat.le_of_ble_eq_true (by rfl)) ?_)
     intro w190_ S192_ H191_
     have S193_ := Same.trans S188_ S192_
     refine wpList_nil (X_then (hK189_ _ _ ?_))
     clear hK189_
     refine C_ret ?_
     refine R_any (v := (vA #[(Value.iface 167 (Value.string s.in__Begin)), (Value.iface 167 (Value.string (s.in__Begin ++ (ByteArray.mk #[0]))))])) (run_results1 rfl ⟨_, rfl, load_resN Try.underlying111 rfl z111 rfl (vs := [(Value.iface 167 (Value.string s.in__Begin)), (Value.iface 167 (Value.string (s.in__Begin ++ (ByteArray.mk #[0]))))]) (Holds.cl_cells H191_ 0 rfl 0 rfl)⟩) ⟨_, rfl, ?_⟩
     refine S_list0 (T_storeN (vs := [(Value.iface 167 (Value.string s.in__Begin)), (Value.iface 167 (Value.string (s.in__Begin ++ (ByteArray.mk #[0]))))]) rfl rfl z111 rfl (by simp [Value.oneCell']) H191_ 1 rfl (Nat.le_of_ble_eq_true (by rfl)) ?_)
     intro w194_ S196_ H195_
     have S197_ := Same.trans S193_ S196_
     refine wpList_nil (X_then (hK182_ _ _ ?_))
     clear hK182_
     refine C_ret (X_thenR ?_)
     refine R_any (v := (vA #[(Value.iface 167 (Value.string s.in__Begin)), (Value.iface 167 (Value.string (s.in__Begin ++ (ByteArray.mk #[0]))))])) (run_results1 rfl ⟨_, rfl, load_resN Try.underlying111 rfl z111 rfl (vs := [(Value.iface 167 (Value.string s.in__Begin)), (Value.iface 167 (Value.string (s.in__Begin ++ (ByteArray.mk #[0]))))]) (Holds.cl_cells H195_ 1 rfl 0 rfl)⟩) ?_
     have ho_ : ord = 0 := by omega
     have H198_ : Holds w194_ (ro R :: F) := (Holds.pkF H195_ [3] 3 :)
     exact ⟨R, _, _, rfl, (Sub.rfl' _), ⟨167, 167, (Value.string s.in__Begin), (Value.string (s.in__Begin ++ (ByteArray.mk #[0]))), (congrArg (fun l => vA (List.toArray l)) (lcons (rfl : (Value.iface 167 (Value.string s.in__Begin)) = ((Value.iface 167 (Value.string s.in__Begin)))) (lcons (rfl : (Value.iface 167 (Value.string (s.in__Begin ++ (ByteArray.mk #[0])))) = ((Value.iface 167 (Value.string (s.in__Begin ++ (ByteArray.mk #[0])))))) rfl))), rfl, (.inl ⟨ho_, _, rfl, lo_text (by rw [ho_]; decide)⟩), (.inl ⟨ho_, _, rfl, hi_point (by rw [ho_]; decide) c181_t⟩)⟩, S197_, H198_⟩
    ·skip
     refine C_skip (X_then (hK179_ _ _ ?_))
     clear hK179_
     refine C_seq (fun K199_ hK199_ => C_reg ?_)
     refine sv (v := (vQ b2_)) (by kernel_rfl) ?_
     refine sv (v := (vQ b2_)) (by kernel_rfl) ?_
     refine sv (v := (Value.string s.in__Begin)) (x_load1 rfl Try.underlying9 rfl ((Holds.rd H9_ 1 rfl) 0 (Value.string s.in__Begin) rfl)) ?_
     refine sv (v := (vQ b2_)) (by kernel_rfl) ?_
     refine sv (v := (vP (some ⟨b2_, 1, none⟩))) (by kernel_rfl) ?_
     refine sv (v := (Value.string s.in__End)) (x_load1 rfl Try.underlying9 rfl ((Holds.rd H9_ 1 rfl) 1 (Value.string s.in__End) rfl)) ?_
     refine S_list (T_callW (al := [(Value.string s.in__Begin), (Value.string s.in__End)]) rfl rfl cb108 (Calls.into (n := 10) (al := [(Value.string s.in__Begin), (Value.string s.in__End)]) Try.func108 rfl Try.ntmps108 rfl rfl ?_))
     refine C_seq (fun K200_ hK200_ => C_reg ?_)
     refine S_list (T_alloc z111 H9_ ?_)
     intro b201_ w202_ S204_ H203_
     have S205_ := Same.trans S11_ S204_
     refine wpList_nil (X_then (hK200_ _ _ ?_))
     clear hK200_
     refine C_seq (fun K206_ hK206_ => C_reg ?_)
     refine sv (v := (Value.string s.in__Begin)) (x_move rfl) ?_
     refine sv (v := (Value.iface 167 (Value.string s.in__Begin))) (by kernel_rfl) ?_
     refine sv (v := (Value.string s.in__End)) (x_move rfl) ?_
     refine sv (v := (Value.iface 167 (Value.string s.in__End))) (by kernel_rfl) ?_
     refine sv (v := (vA #[(Value.iface 167 (Value.string s.in__Begin)), (Value.iface 167 (Value.string s.in__End))])) (by kernel_rfl) ?_
     refine S_list0 (T_storeN (vs := [(Value.iface 167 (Value.string s.in__Begin)), (Value.iface 167 (Value.string s.in__End))]) rfl rfl z111 rfl (by simp [Value.oneCell']) H203_ 0 rfl (Nat.le_of_ble_eq_true (by rfl)) ?_)
     intro w207_ S209_ H208_
     have S210_ := Same.trans S205_ S209_
     refine wpList_nil (X_then (hK206_ _ _ ?_))
     clear hK206_
     refine C_ret ?_
     refine R_any (v := (vA #[(Value.iface 167 (Value.string s.in__Begin)), (Value.iface 167 (Value.string s.in__End))])) (run_results1 rfl ⟨_, rfl, load_resN Try.underlying111 rfl z111 rfl (vs := [(Value.iface 167 (Value.string s.in__Begin)), (Value.iface 167 (Value.string s.in__End))]) (Holds.cl_cells H208_ 0 rfl 0 rfl)⟩) ⟨_, rfl, ?_⟩
     refine S_list0 (T_storeN (vs := [(Value.iface 167 (Value.string s.in__Begin)), (Value.iface 167 (Value.string s.in__End))]) rfl rfl z111 rfl (by simp [Value.oneCell']) H208_ 1 rfl (Nat.le_of_ble_eq_true (by rfl)) ?_)
     intro w211_ S213_ H212_
     have S214_ := Same.trans S210_ S213_
     refine wpList_nil (X_then (hK199_ _ _ ?_))
     clear hK199_
     refine C_ret ?_
     refine R_any (v := (vA #[(Value.iface 167 (Value.string s.in__Begin)), (Value.iface 167 (Value.string s.in__End))])) (run_results1 rfl ⟨_, rfl, load_resN Try.underlying111 rfl z111 rfl (vs := [(Value.iface 167 (Value.string s.in__Begin)), (Value.iface 167 (Value.string s.in__End))]) (Holds.cl_cells H212_ 1 rfl 0 rfl)⟩) ?_
     have ho_ : ord = 0 := by omega
     have H215_ : Holds w211_ (ro R :: F) := (Holds.pkF H212_ [3] 3 :)
     exact ⟨R, _, _, rfl, (Sub.rfl' _), ⟨167, 167, (Value.string s.in__Begin), (Value.string s.in__End), (congrArg (fun l => vA (List.toArray l)) (lcons (rfl : (Value.iface 167 (Value.string s.in__Begin)) = ((Value.iface 167 (Value.string s.in__Begin)))) (lcons (rfl : (Value.iface 167 (Value.string s.in__End)) = ((Value.iface 167 (Value.string s.in__End)))) rfl))), rfl, (.inl ⟨ho_, _, rfl, lo_text (by rw [ho_]; decide)⟩), (.inl ⟨ho_, _, rfl, hi_text (by rw [ho_]; decide) c181_f⟩)⟩, S214_, H215_⟩

set_option maxHeartbeats 1600000 in
theorem spOut0 (R : HP) (a b : ByteArray) :
    Tri Try.prog 54 #[(vA #[(Value.iface 167 (Value.string a)), (Value.iface 167 (Value.string b))])] R [] (fun v__ post__ => v__ = (vA #[(Value.string a), (Value.string b), (vB false), (vI .i64 0), (vI .i64 0)]) ∧ post__ = []) := by
 refine Tri.into (n := 66) (al := [(vA #[(Value.iface 167 (Value.string a)), (Value.iface 167 (Value.string b))])]) Try.func54 rfl Try.ntmps54 rfl rfl fun w F H => ?_
 refine C_seq (fun K1_ hK1_ => C_reg ?_)
 refine S_list (T_box (v := (vA #[(Value.iface 167 (Value.string a)), (Value.iface 167 (Value.string b))])) rfl H ?_)
 intro b2_ w3_ S5_ H4_
 have S6_ := Same.trans (Same.refl w) S5_
 refine S_list (T_alloc z44 H4_ ?_)
 intro b7_ w8_ S10_ H9_
 have S11_ := Same.trans S6_ S10_
 refine wpList_nil (X_then (hK1_ _ _ ?_))
 clear hK1_
 refine C_seq (fun K12_ hK12_ => C_reg ?_)
 refine sv (v := (vA #[(Value.string ByteArray.empty), (Value.string ByteArray.empty), (vB false), (vI .i64 0), (vI .i64 0)])) (by kernel_rfl) ?_
 refine S_list (T_alloc z44 H9_ ?_)
 intro b13_ w14_ S16_ H15_
 have S17_ := Same.trans S11_ S16_
 refine S_list0 (T_storeN (vs := [(Value.string ByteArray.empty), (Value.string ByteArray.empty), (vB false), (vI .i64 0), (vI .i64 0)]) rfl rfl z44 rfl (by simp [Value.oneCell']) H15_ 0 rfl (Nat.le_of_ble_eq_true (by rfl)) ?_)
 intro w18_ S20_ H19_
 have S21_ := Same.trans S17_ S20_
 refine wpList_nil (X_then (hK12_ _ _ ?_))
 clear hK12_
 refine C_seq (fun K22_ hK22_ => ?_)
 refine C_seq (fun K23_ hK23_ => C_reg ?_)
 refine sv (v := (vQ b2_)) (by kernel_rfl) ?_
 refine sv (v := (Value.iface 167 (Value.string a))) (x_load1 rfl Try.underlying109 rfl ((Holds.rd H19_ 2 rfl) 0 (Value.iface 167 (Value.string a)) rfl)) ?_
 refine wpList_nil (X_then (hK23_ _ _ ?_))
 clear hK23_
 refine C_block ?_
 refine C_seq (fun K24_ hK24_ => C_reg ?_)
 refine sv (v := (vT #[(Value.string a), (vB true)])) (by kernel_rfl) ?_
 refine sv (v := (vB true)) (by kernel_rfl) ?_
 refine sv (v := (Value.string a)) (by kernel_rfl) ?_
 refine wpList_nil (X_then (hK24_ _ _ ?_))
 clear hK24_
 refine C_condT rfl ?_
 refine C_seq (fun K25_ hK25_ => C_reg ?_)
 refine sv (v := (Value.string a)) (x_assign rfl) ?_
 refine wpList_nil (X_then (hK25_ _ _ ?_))
 clear hK25_
 refine C_reg ?_
 refine sv (v := (Value.string a)) (x_move rfl) ?_
 refine sv (v := (vQ b13_)) (by kernel_rfl) ?_
 refine sv (v := (vQ b13_)) (by kernel_rfl) ?_
 refine S_list0 (T_store1 (v := (Value.string a)) rfl rfl z9 rfl H19_ 0 rfl (Nat.le_of_ble_eq_true (by rfl)) ?_)
 intro w26_ S28_ H27_
 have S29_ := Same.trans S21_ S28_
 refine wpList_nil (X_blkN (X_then (hK22_ _ _ ?_)))
 clear hK22_
 refine C_seq (fun K30_ hK30_ => ?_)
 refine C_seq (fun K31_ hK31_ => C_reg ?_)
 refine sv (v := (vP (some ⟨b2_, 1, none⟩))) (by kernel_rfl) ?_
 refine sv (v := (Value.iface 167 (Value.string b))) (x_load1 rfl Try.underlying109 rfl ((Holds.rd H27_ 2 rfl) 1 (Value.iface 167 (Value.string b)) rfl)) ?_
 refine wpList_nil (X_then (hK31_ _ _ ?_))
 clear hK31_
 refine C_block ?_
 refine C_seq (fun K32_ hK32_ => C_reg ?_)
 refine sv (v := (vT #[(Value.string b), (vB true)])) (by kernel_rfl) ?_
 refine sv (v := (vB true)) (by kernel_rfl) ?_
 refine sv (v := (Value.string b)) (by kernel_rfl) ?_
 refine wpList_nil (X_then (hK32_ _ _ ?_))
 clear hK32_
 refine C_condT rfl ?_
 refine C_seq (fun K33_ hK33_ => C_reg ?_)
 refine sv (v := (Value.string b)) (x_assign rfl) ?_
 refine wpList_nil (X_then (hK33_ _ _ ?_))
 clear hK33_
 refine C_reg ?_
 refine sv (v := (Value.string b)) (x_move rfl) ?_
 refine sv (v := (vQ b13_)) (by kernel_rfl) ?_
 refine sv (v := (vP (some ⟨b13_, 1, none⟩))) (by kernel_rfl) ?_
 refine S_list0 (T_store1 (v := (Value.string b)) rfl rfl z9 rfl H27_ 0 rfl (Nat.le_of_ble_eq_true (by rfl)) ?_)
 intro w34_ S36_ H35_
 have S37_ := Same.trans S29_ S36_
 refine wpList_nil (X_blkN (X_then (hK30_ _ _ ?_)))
 clear hK30_
 refine C_seq (fun K38_ hK38_ => C_reg ?_)
 refine sv (v := (vA #[(Value.string a), (Value.string b), (vB false), (vI .i64 0), (vI .i64 0)])) (x_loadN (vs := [(Value.string a), (Value.string b), (vB false), (vI .i64 0), (vI .i64 0)]) rfl Try.underlying44 rfl z44 rfl (Rd.cells (Holds.rd H35_ 0 rfl) 0 rfl)) ?_
 refine S_list0 (T_storeN (vs := [(Value.string a), (Value.string b), (vB false), (vI .i64 0), (vI .i64 0)]) rfl rfl z44 rfl (by simp [Value.oneCell']) H35_ 1 rfl (Nat.le_of_ble_eq_true (by rfl)) ?_)
 intro w39_ S41_ H40_
 have S42_ := Same.trans S37_ S41_
 refine wpList_nil (X_then (hK38_ _ _ ?_))
 clear hK38_
 refine C_ret ?_
 refine R_any (v := (vA #[(Value.string a), (Value.string b), (vB false), (vI .i64 0), (vI .i64 0)])) (run_results1 rfl ⟨_, rfl, load_resN Try.underlying44 rfl z44 rfl (vs := [(Value.string a), (Value.string b), (vB false), (vI .i64 0), (vI .i64 0)]) (Holds.cl_cells H40_ 1 rfl 0 rfl)⟩) ?_
 have H43_ : Holds w39_ (ro R :: F) := (Holds.pkF H40_ [3] 3 :)
 exact ⟨_, _, rfl, ⟨rfl, rfl⟩, S42_, H43_⟩

set_option maxHeartbeats 1600000 in
theorem spOut1 (R : HP) (a b : ByteArray) :
    Tri Try.prog 54 #[(vA #[(Value.iface 166 (Value.string a)), (Value.iface 166 (Value.string b))])] R [] (fun v__ post__ => v__ = (vA #[(Value.string a), (Value.string b), (vB false), (vI .i64 0), (vI .i64 0)]) ∧ post__ = []) := by
 refine Tri.into (n := 66) (al := [(vA #[(Value.iface 166 (Value.string a)), (Value.iface 166 (Value.string b))])]) Try.func54 rfl Try.ntmps54 rfl rfl fun w F H => ?_
 refine C_seq (fun K1_ hK1_ => C_reg ?_)
 refine S_list (T_box (v := (vA #[(Value.iface 166 (Value.string a)), (Value.iface 166 (Value.string b))])) rfl H ?_)
 intro b2_ w3_ S5_ H4_
 have S6_ := Same.trans (Same.refl w) S5_
 refine S_list (T_alloc z44 H4_ ?_)
 intro b7_ w8_ S10_ H9_
 have S11_ := Same.trans S6_ S10_
 refine wpList_nil (X_then (hK1_ _ _ ?_))
 clear hK1_
 refine C_seq (fun K12_ hK12_ => C_reg ?_)
 refine sv (v := (vA #[(Value.string ByteArray.empty), (Value.string ByteArray.empty), (vB false), (vI .i64 0), (vI .i64 0)])) (by kernel_rfl) ?_
 refine S_list (T_alloc z44 H9_ ?_)
 intro b13_ w14_ S16_ H15_
 have S17_ := Same.trans S11_ S16_
 refine S_list0 (T_storeN (vs := [(Value.string ByteArray.empty), (Value.string ByteArray.empty), (vB false), (vI .i64 0), (vI .i64 0)]) rfl rfl z44 rfl (by simp [Value.oneCell']) H15_ 0 rfl (Nat.le_of_ble_eq_true (by rfl)) ?_)
 intro w18_ S20_ H19_
 have S21_ := Same.trans S17_ S20_
 refine wpList_nil (X_then (hK12_ _ _ ?_))
 clear hK12_
 refine C_seq (fun K22_ hK22_ => ?_)
 refine C_seq (fun K23_ hK23_ => C_reg ?_)
 refine sv (v := (vQ b2_)) (by kernel_rfl) ?_
 refine sv (v := (Value.iface 166 (Value.string a))) (x_load1 rfl Try.underlying109 rfl ((Holds.rd H19_ 2 rfl) 0 (Value.iface 166 (Value.string a)) rfl)) ?_
 refine wpList_nil (X_then (hK23_ _ _ ?_))
 clear hK23_
 refine C_block ?_
 refine C_seq (fun K24_ hK24_ => C_reg ?_)
 refine sv (v := (vT #[(Value.string ByteArray.empty), (vB false)])) (by kernel_rfl) ?_
 refine sv (v := (vB false)) (by kernel_rfl) ?_
 refine sv (v := (Value.string ByteArray.empty)) (by kernel_rfl) ?_
 refine wpList_nil (X_then (hK24_ _ _ ?_))
 clear hK24_
 refine C_condF rfl ?_
 refine C_seq (fun K25_ hK25_ => C_reg ?_)
 refine sv (v := (vT #[(Value.string a), (vB true)])) (by kernel_rfl) ?_
 refine sv (v := (vB true)) (by kernel_rfl) ?_
 refine sv (v := (Value.string a)) (by kernel_rfl) ?_
 refine wpList_nil (X_then (hK25_ _ _ ?_))
 clear hK25_
 refine C_condT rfl ?_
 refine C_seq (fun K26_ hK26_ => C_reg ?_)
 refine sv (v := (Value.string a)) (x_assign rfl) ?_
 refine wpList_nil (X_then (hK26_ _ _ ?_))
 clear hK26_
 refine C_reg ?_
 refine sv (v := (Value.string a)) (x_move rfl) ?_
 refine sv (v := (vQ b13_)) (by kernel_rfl) ?_
 refine sv (v := (vQ b13_)) (by kernel_rfl) ?_
 refine S_list0 (T_store1 (v := (Value.string a)) rfl rfl z9 rfl H19_ 0 rfl (Nat.le_of_ble_eq_true (by rfl)) ?_)
 intro w27_ S29_ H28_
 have S30_ := Same.trans S21_ S29_
 refine wpList_nil (X_blkN (X_then (hK22_ _ _ ?_)))
 clear hK22_
 refine C_seq (fun K31_ hK31_ => ?_)
 refine C_seq (fun K32_ hK32_ => C_reg ?_)
 refine sv (v := (vP (some ⟨b2_, 1, none⟩))) (by kernel_rfl) ?_
 refine sv (v := (Value.iface 166 (Value.string b))) (x_load1 rfl Try.underlying109 rfl ((Holds.rd H28_ 2 rfl) 1 (Value.iface 166 (Value.string b)) rfl)) ?_
 refine wpList_nil (X_then (hK32_ _ _ ?_))
 clear hK32_
 refine C_block ?_
 refine C_seq (fun K33_ hK33_ => C_reg ?_)
 refine sv (v := (vT #[(Value.string ByteArray.empty), (vB false)])) (by kernel_rfl) ?_
 refine sv (v := (vB false)) (by kernel_rfl) ?_
 refine sv (v := (Value.string ByteArray.empty)) (by kernel_rfl) ?_
 refine wpList_nil (X_then (hK33_ _ _ ?_))
 clear hK33_
 refine C_condF rfl ?_
 refine C_seq (fun K34_ hK34_ => C_reg ?_)
 refine sv (v := (vT #[(Value.string b), (vB true)])) (by kernel_rfl) ?_
 refine sv (v := (vB true)) (by kernel_rfl) ?_
 refine sv (v := (Value.string b)) (by kernel_rfl) ?_
 refine wpList_nil (X_then (hK34_ _ _ ?_))
 clear hK34_
 refine C_condT rfl ?_
 refine C_seq (fun K35_ hK35_ => C_reg ?_)
 refine sv (v := (Value.string b)) (x_assign rfl) ?_
 refine wpList_nil (X_then (hK35_ _ _ ?_))
 clear hK35_
 refine C_reg ?_
 refine sv (v := (Value.string b)) (x_move rfl) ?_
 refine sv (v := (vQ b13_)) (by kernel_rfl) ?_
 refine sv (v := (vP (some ⟨b13_, 1, none⟩))) (by kernel_rfl) ?_
 refine S_list0 (T_store1 (v := (Value.string b)) rfl rfl z9 rfl H28_ 0 rfl (Nat.le_of_ble_eq_true (by rfl)) ?_)
 intro w36_ S38_ H37_
 have S39_ := Same.trans S30_ S38_
 refine wpList_nil (X_blkN (X_then (hK31_ _ _ ?_)))
 clear hK31_
 refine C_seq (fun K40_ hK40_ => C_reg ?_)
 refine sv (v := (vA #[(Value.string a), (Value.string b), (vB false), (vI .i64 0), (vI .i64 0)])) (x_loadN (vs := [(Value.string a), (Value.string b), (vB false), (vI .i64 0), (vI .i64 0)]) rfl Try.underlying44 rfl z44 rfl (Rd.cells (Holds.rd H37_ 0 rfl) 0 rfl)) ?_
 refine S_list0 (T_storeN (vs := [(Value.string a), (Value.string b), (vB false), (vI .i64 0), (vI .i64 0)]) rfl rfl z44 rfl (by simp [Value.oneCell']) H37_ 1 rfl (Nat.le_of_ble_eq_true (by rfl)) ?_)
 intro w41_ S43_ H42_
 have S44_ := Same.trans S39_ S43_
 refine wpList_nil (X_then (hK40_ _ _ ?_))
 clear hK40_
 refine C_ret ?_
 refine R_any (v := (vA #[(Value.string a), (Value.string b), (vB false), (vI .i64 0), (vI .i64 0)])) (run_results1 rfl ⟨_, rfl, load_resN Try.underlying44 rfl z44 rfl (vs := [(Value.string a), (Value.string b), (vB false), (vI .i64 0), (vI .i64 0)]) (Holds.cl_cells H42_ 1 rfl 0 rfl)⟩) ?_
 have H45_ : Holds w41_ (ro R :: F) := (Holds.pkF H42_ [3] 3 :)
 exact ⟨_, _, rfl, ⟨rfl, rfl⟩, S44_, H45_⟩

set_option maxHeartbeats 1600000 in
theorem spOut3 (R : HP) (a b : Int) :
    Tri Try.prog 54 #[(vA #[(Value.iface 169 (vI .i64 a)), (Value.iface 169 (vI .i64 b))])] R [] (fun v__ post__ => v__ = (vA #[(Value.string (ByteArray.mk #[])), (Value.string (ByteArray.mk #[])), (vB false), (vI .i64 a), (vI .i64 b)]) ∧ post__ = []) := by
 refine Tri.into (n := 66) (al := [(vA #[(Value.iface 169 (vI .i64 a)), (Value.iface 169 (vI .i64 b))])]) Try.func54 rfl Try.ntmps54 rfl rfl fun w F H => ?_
 refine C_seq (fun K1_ hK1_ => C_reg ?_)
 refine S_list (T_box (v := (vA #[(Value.iface 169 (vI .i64 a)), (Value.iface 169 (vI .i64 b))])) rfl H ?_)
 intro b2_ w3_ S5_ H4_
 have S6_ := Same.trans (Same.refl w) S5_
 refine S_list (T_alloc z44 H4_ ?_)
 intro b7_ w8_ S10_ H9_
 have S11_ := Same.trans S6_ S10_
 refine wpList_nil (X_then (hK1_ _ _ ?_))
 clear hK1_
 refine C_seq (fun K12_ hK12_ => C_reg ?_)
 refine sv (v := (vA #[(Value.string ByteArray.empty), (Value.string ByteArray.empty), (vB false), (vI .i64 0), (vI .i64 0)])) (by kernel_rfl) ?_
 refine S_list (T_alloc z44 H9_ ?_)
 intro b13_ w14_ S16_ H15_
 have S17_ := Same.trans S11_ S16_
 refine S_list0 (T_storeN (vs := [(Value.string ByteArray.empty), (Value.string ByteArray.empty), (vB false), (vI .i64 0), (vI .i64 0)]) rfl rfl z44 rfl (by simp [Value.oneCell']) H15_ 0 rfl (Nat.le_of_ble_eq_true (by rfl)) ?_)
 intro w18_ S20_ H19_
 have S21_ := Same.trans S17_ S20_
 refine wpList_nil (X_then (hK12_ _ _ ?_))
 clear hK12_
 refine C_seq (fun K22_ hK22_ => ?_)
 refine C_seq (fun K23_ hK23_ => C_reg ?_)
 refine sv (v := (vQ b2_)) (by kernel_rfl) ?_
 refine sv (v := (Value.iface 169 (vI .i64 a))) (x_load1 rfl Try.underlying109 rfl ((Holds.rd H19_ 2 rfl) 0 (Value.iface 169 (vI .i64 a)) rfl)) ?_
 refine wpList_nil (X_then (hK23_ _ _ ?_))
 clear hK23_
 refine C_block ?_
 refine C_seq (fun K24_ hK24_ => C_reg ?_)
 refine sv (v := (vT #[(Value.string ByteArray.empty), (vB false)])) (by kernel_rfl) ?_
 refine sv (v := (vB false)) (by kernel_rfl) ?_
 refine sv (v := (Value.string ByteArray.empty)) (by kernel_rfl) ?_
 refine wpList_nil (X_then (hK24_ _ _ ?_))
 clear hK24_
 refine C_condF rfl ?_
 refine C_seq (fun K25_ hK25_ => C_reg ?_)
 refine sv (v := (vT #[(Value.string ByteArray.empty), (vB false)])) (by kernel_rfl) ?_
 refine sv (v := (vB false)) (by kernel_rfl) ?_
 refine sv (v := (Value.string ByteArray.empty)) (by kernel_rfl) ?_
 refine wpList_nil (X_then (hK25_ _ _ ?_))
 clear hK25_
 refine C_condF rfl ?_
 refine C_seq (fun K26_ hK26_ => C_reg ?_)
 refine sv (v := (vT #[(vS none 0 0), (vB false)])) (by kernel_rfl) ?_
 refine sv (v := (vB false)) (by kernel_rfl) ?_
 refine sv (v := (vS none 0 0)) (by kernel_rfl) ?_
 refine wpList_nil (X_then (hK26_ _ _ ?_))
 clear hK26_
 refine C_condF rfl ?_
 refine C_seq (fun K27_ hK27_ => C_reg ?_)
 refine sv (v := (vT #[(vI .i64 a), (vB true)])) (by kernel_rfl) ?_
 refine sv (v := (vB true)) (by kernel_rfl) ?_
 refine sv (v := (vI .i64 a)) (by kernel_rfl) ?_
 refine wpList_nil (X_then (hK27_ _ _ ?_))
 clear hK27_
 refine C_condT rfl ?_
 refine C_seq (fun K28_ hK28_ => C_reg ?_)
 refine sv (v := (vI .i64 a)) (x_assign rfl) ?_
 refine wpList_nil (X_then (hK28_ _ _ ?_))
 clear hK28_
 refine C_reg ?_
 refine sv (v := (vI .i64 a)) (x_move rfl) ?_
 refine sv (v := (vP (some ⟨b13_, 3, none⟩))) (by kernel_rfl) ?_
 refine S_list0 (T_store1 (v := (vI .i64 a)) rfl rfl z2 rfl H19_ 0 rfl (Nat.le_of_ble_eq_true (by rfl)) ?_)
 intro w29_ S31_ H30_
 have S32_ := Same.trans S21_ S31_
 refine wpList_nil (X_blkN (X_then (hK22_ _ _ ?_)))
 clear hK22_
 refine C_seq (fun K33_ hK33_ => ?_)
 refine C_seq (fun K34_ hK34_ => C_reg ?_)
 refine sv (v := (vP (some ⟨b2_, 1, none⟩))) (by kernel_rfl) ?_
 refine sv (v := (Value.iface 169 (vI .i64 b))) (x_load1 rfl Try.underlying109 rfl ((Holds.rd H30_ 2 rfl) 1 (Value.iface 169 (vI .i64 b)) rfl)) ?_
 refine wpList_nil (X_then (hK34_ _ _ ?_))
 clear hK34_
 refine C_block ?_
 refine C_seq (fun K35_ hK35_ => C_reg ?_)
 refine sv (v := (vT #[(Value.string ByteArray.empty), (vB false)])) (by kernel_rfl) ?_
 refine sv (v := (vB false)) (by kernel_rfl) ?_
 refine sv (v := (Value.string ByteArray.empty)) (by kernel_rfl) ?_
 refine wpList_nil (X_then (hK35_ _ _ ?_))
 clear hK35_
 refine C_condF rfl ?_
 refine C_seq (fun K36_ hK36_ => C_reg ?_)
 refine sv (v := (vT #[(Value.string ByteArray.empty), (vB false)])) (by kernel_rfl) ?_
 refine sv (v := (vB false)) (by kernel_rfl) ?_
 refine sv (v := (Value.string ByteArray.empty)) (by kernel_rfl) ?_
 refine wpList_nil (X_then (hK36_ _ _ ?_))
 clear hK36_
 refine C_condF rfl ?_
 refine C_seq (fun K37_ hK37_ => C_reg ?_)
 refine sv (v := (vT #[(vS none 0 0), (vB false)])) (by kernel_rfl) ?_
 refine sv (v := (vB false)) (by kernel_rfl) ?_
 refine sv (v := (vS none 0 0)) (by kernel_rfl) ?_
 refine wpList_nil (X_then (hK37_ _ _ ?_))
 clear hK37_
 refine C_condF rfl ?_
 refine C_seq (fun K38_ hK38_ => C_reg ?_)
 refine sv (v := (vT #[(vI .i64 b), (vB true)])) (by kernel_rfl) ?_
 refine sv (v := (vB true)) (by kernel_rfl) ?_
 refine sv (v := (vI .i64 b)) (by kernel_rfl) ?_
 refine wpList_nil (X_then (hK38_ _ _ ?_))
 clear hK38_
 refine C_condT rfl ?_
 refine C_seq (fun K39_ hK39_ => C_reg ?_)
 refine sv (v := (vI .i64 b)) (x_assign rfl) ?_
 refine wpList_nil (X_then (hK39_ _ _ ?_))
 clear hK39_
 refine C_reg ?_
 refine sv (v := (vI .i64 b)) (x_move rfl) ?_
 refine sv (v := (vP (some ⟨b13_, 4, none⟩))) (by kernel_rfl) ?_
 refine S_list0 (T_store1 (v := (vI .i64 b)) rfl rfl z2 rfl H30_ 0 rfl (Nat.le_of_ble_eq_true (by rfl)) ?_)
 intro w40_ S42_ H41_
 have S43_ := Same.trans S32_ S42_
 refine wpList_nil (X_blkN (X_then (hK33_ _ _ ?_)))
 clear hK33_
 refine C_seq (fun K44_ hK44_ => C_reg ?_)
 refine sv (v := (vA #[(Value.string ByteArray.empty), (Value.string ByteArray.empty), (vB false), (vI .i64 a), (vI .i64 b)])) (x_loadN (vs := [(Value.string ByteArray.empty), (Value.string ByteArray.empty), (vB false), (vI .i64 a), (vI .i64 b)]) rfl Try.underlying44 rfl z44 rfl (Rd.cells (Holds.rd H41_ 0 rfl) 0 rfl)) ?_
 refine S_list0 (T_storeN (vs := [(Value.string ByteArray.empty), (Value.string ByteArray.empty), (vB false), (vI .i64 a), (vI .i64 b)]) rfl rfl z44 rfl (by simp [Value.oneCell']) H41_ 1 rfl (Nat.le_of_ble_eq_true (by rfl)) ?_)
 intro w45_ S47_ H46_
 have S48_ := Same.trans S43_ S47_
 refine wpList_nil (X_then (hK44_ _ _ ?_))
 clear hK44_
 refine C_ret ?_
 refine R_any (v := (vA #[(Value.string ByteArray.empty), (Value.string ByteArray.empty), (vB false), (vI .i64 a), (vI .i64 b)])) (run_results1 rfl ⟨_, rfl, load_resN Try.underlying44 rfl z44 rfl (vs := [(Value.string ByteArray.empty), (Value.string ByteArray.empty), (vB false), (vI .i64 a), (vI .i64 b)]) (Holds.cl_cells H46_ 1 rfl 0 rfl)⟩) ?_
 have H49_ : Holds w45_ (ro R :: F) := (Holds.pkF H46_ [3] 3 :)
 exact ⟨_, _, rfl, ⟨(congrArg (fun l => vA (List.toArray l)) (lcons (congrArg Value.string ((by first | rfl | omega | (simp; done) | (simp; omega)) : ByteArray.empty = (ByteArray.mk #[]))) (lcons (congrArg Value.string ((by first | rfl | omega | (simp; done) | (simp; omega)) : ByteArray.empty = (ByteArray.mk #[]))) rfl))), rfl⟩, S48_, H49_⟩

set_option maxHeartbeats 1600000 in
theorem spOut2 (R : HP) (x y : Value) (A C : List Int) (hx : RS R 1 x (List.length A) (bytesV A)) (hy : RS R 1 y (List.length C) (bytesV C)) :
    Tri Try.prog 54 #[(vA #[(Value.iface 168 x), (Value.iface 168 y)])] R [] (fun v__ post__ => v__ = (vA #[(Value.string (strN A)), (Value.string (strN C)), (vB false), (vI .i64 0), (vI .i64 0)]) ∧ post__ = []) := by
 refine Tri.into (n := 66) (al := [(vA #[(Value.iface 168 x), (Value.iface 168 y)])]) Try.func54 rfl Try.ntmps54 rfl rfl fun w F H => ?_
 refine C_seq (fun K1_ hK1_ => C_reg ?_)
 refine S_list (T_box (v := (vA #[(Value.iface 168 x), (Value.iface 168 y)])) rfl H ?_)
 intro b2_ w3_ S5_ H4_
 have S6_ := Same.trans (Same.refl w) S5_
 refine S_list (T_alloc z44 H4_ ?_)
 intro b7_ w8_ S10_ H9_
 have S11_ := Same.trans S6_ S10_
 refine wpList_nil (X_then (hK1_ _ _ ?_))
 clear hK1_
 refine C_seq (fun K12_ hK12_ => C_reg ?_)
 refine sv (v := (vA #[(Value.string ByteArray.empty), (Value.string ByteArray.empty), (vB false), (vI .i64 0), (vI .i64 0)])) (by kernel_rfl) ?_
 refine S_list (T_alloc z44 H9_ ?_)
 intro b13_ w14_ S16_ H15_
 have S17_ := Same.trans S11_ S16_
 refine S_list0 (T_storeN (vs := [(Value.string ByteArray.empty), (Value.string ByteArray.empty), (vB false), (vI .i64 0), (vI .i64 0)]) rfl rfl z44 rfl (by simp [Value.oneCell']) H15_ 0 rfl (Nat.le_of_ble_eq_true (by rfl)) ?_)
 intro w18_ S20_ H19_
 have S21_ := Same.trans S17_ S20_
 refine wpList_nil (X_then (hK12_ _ _ ?_))
 clear hK12_
 refine C_seq (fun K22_ hK22_ => ?_)
 refine C_seq (fun K23_ hK23_ => C_reg ?_)
 refine sv (v := (vQ b2_)) (by kernel_rfl) ?_
 refine sv (v := (Value.iface 168 x)) (x_load1 rfl Try.underlying109 rfl ((Holds.rd H19_ 2 rfl) 0 (Value.iface 168 x) rfl)) ?_
 refine wpList_nil (X_then (hK23_ _ _ ?_))
 clear hK23_
 refine C_block ?_
 refine C_seq (fun K24_ hK24_ => C_reg ?_)
 refine sv (v := (vT #[(Value.string ByteArray.empty), (vB false)])) (by kernel_rfl) ?_
 refine sv (v := (vB false)) (by kernel_rfl) ?_
 refine sv (v := (Value.string ByteArray.empty)) (by kernel_rfl) ?_
 refine wpList_nil (X_then (hK24_ _ _ ?_))
 clear hK24_
 refine C_condF rfl ?_
 refine C_seq (fun K25_ hK25_ => C_reg ?_)
 refine sv (v := (vT #[(Value.string ByteArray.empty), (vB false)])) (by kernel_rfl) ?_
 refine sv (v := (vB false)) (by kernel_rfl) ?_
 refine sv (v := (Value.string ByteArray.empty)) (by kernel_rfl) ?_
 refine wpList_nil (X_then (hK25_ _ _ ?_))
 clear hK25_
 refine C_condF rfl ?_
 refine C_seq (fun K26_ hK26_ => C_reg ?_)
 refine sv (v := (vT #[x, (vB true)])) (by kernel_rfl) ?_
 refine sv (v := (vB true)) (by kernel_rfl) ?_
 refine sv (v := x) (by kernel_rfl) ?_
 refine wpList_nil (X_then (hK26_ _ _ ?_))
 clear hK26_
 refine C_condT rfl ?_
 refine C_seq (fun K27_ hK27_ => C_reg ?_)
 refine sv (v := x) (x_assign rfl) ?_
 refine wpList_nil (X_then (hK27_ _ _ ?_))
 clear hK27_
 refine C_reg ?_
 refine sv (v := x) (x_move rfl) ?_
 refine sv (v := (Value.string (strN A))) (x_b2sRS rfl hx (Holds.ro_at H19_ 3 rfl) Try.underlying168 Try.underlying5 Try.underlying9) ?_
 refine sv (v := (vQ b13_)) (by kernel_rfl) ?_
 refine sv (v := (vQ b13_)) (by kernel_rfl) ?_
 refine S_list0 (T_store1 (v := (Value.string (strN A))) rfl rfl z9 rfl H19_ 0 rfl (Nat.le_of_ble_eq_true (by rfl)) ?_)
 intro w28_ S30_ H29_
 have S31_ := Same.trans S21_ S30_
 refine wpList_nil (X_blkN (X_then (hK22_ _ _ ?_)))
 clear hK22_
 refine C_seq (fun K32_ hK32_ => ?_)
 refine C_seq (fun K33_ hK33_ => C_reg ?_)
 refine sv (v := (vP (some ⟨b2_, 1, none⟩))) (by kernel_rfl) ?_
 refine sv (v := (Value.iface 168 y)) (x_load1 rfl Try.underlying109 rfl ((Holds.rd H29_ 2 rfl) 1 (Value.iface 168 y) rfl)) ?_
 refine wpList_nil (X_then (hK33_ _ _ ?_))
 clear hK33_
 refine C_block ?_
 refine C_seq (fun K34_ hK34_ => C_reg ?_)
 refine sv (v := (vT #[(Value.string ByteArray.empty), (vB false)])) (by kernel_rfl) ?_
 refine sv (v := (vB false)) (by kernel_rfl) ?_
 refine sv (v := (Value.string ByteArray.empty)) (by kernel_rfl) ?_
 refine wpList_nil (X_then (hK34_ _ _ ?_))
 clear hK34_
 refine C_condF rfl ?_
 refine C_seq (fun K35_ hK35_ => C_reg ?_)
 refine sv (v := (vT #[(Value.string ByteArray.empty), (vB false)])) (by kernel_rfl) ?_
 refine sv (v := (vB false)) (by kernel_rfl) ?_
 refine sv (v := (Value.string ByteArray.empty)) (by kernel_rfl) ?_
 refine wpList_nil (X_then (hK35_ _ _ ?_))
 clear hK35_
 refine C_condF rfl ?_
 refine C_seq (fun K36_ hK36_ => C_reg ?_)
 refine sv (v := (vT #[y, (vB true)])) (by kernel_rfl) ?_
 refine sv (v := (vB true)) (by kernel_rfl) ?_
 refine sv (v := y) (by kernel_rfl) ?_
 refine wpList_nil (X_then (hK36_ _ _ ?_))
 clear hK36_
 refine C_condT rfl ?_
 refine C_seq (fun K37_ hK37_ => C_reg ?_)
 refine sv (v := y) (x_assign rfl) ?_
 refine wpList_nil (X_then (hK37_ _ _ ?_))
 clear hK37_
 refine C_reg ?_
 refine sv (v := y) (x_move rfl) ?_
 refine sv (v := (Value.string (strN C))) (x_b2sRS rfl hy (Holds.ro_at H29_ 3 rfl) Try.underlying168 Try.underlying5 Try.underlying9) ?_
 refine sv (v := (vQ b13_)) (by kernel_rfl) ?_
 refine sv (v := (vP (some ⟨b13_, 1, none⟩))) (by kernel_rfl) ?_
 refine S_list0 (T_store1 (v := (Value.string (strN C))) rfl rfl z9 rfl H29_ 0 rfl (Nat.le_of_ble_eq_true (by rfl)) ?_)
 intro w38_ S40_ H39_
 have S41_ := Same.trans S31_ S40_
 refine wpList_nil (X_blkN (X_then (hK32_ _ _ ?_)))
 clear hK32_
 refine C_seq (fun K42_ hK42_ => C_reg ?_)
 refine sv (v := (vA #[(Value.string (strN A)), (Value.string (strN C)), (vB false), (vI .i64 0), (vI .i64 0)])) (x_loadN (vs := [(Value.string (strN A)), (Value.string (strN C)), (vB false), (vI .i64 0), (vI .i64 0)]) rfl Try.underlying44 rfl z44 rfl (Rd.cells (Holds.rd H39_ 0 rfl) 0 rfl)) ?_
 refine S_list0 (T_storeN (vs := [(Value.string (strN A)), (Value.string (strN C)), (vB false), (vI .i64 0), (vI .i64 0)]) rfl rfl z44 rfl (by simp [Value.oneCell']) H39_ 1 rfl (Nat.le_of_ble_eq_true (by rfl)) ?_)
 intro w43_ S45_ H44_
 have S46_ := Same.trans S41_ S45_
 refine wpList_nil (X_then (hK42_ _ _ ?_))
 clear hK42_
 refine C_ret ?_
 refine R_any (v := (vA #[(Value.string (strN A)), (Value.string (strN C)), (vB false), (vI .i64 0), (vI .i64 0)])) (run_results1 rfl ⟨_, rfl, load_resN Try.underlying44 rfl z44 rfl (vs := [(Value.string (strN A)), (Value.string (strN C)), (vB false), (vI .i64 0), (vI .i64 0)]) (Holds.cl_cells H44_ 1 rfl 0 rfl)⟩) ?_
 have H47_ : Holds w43_ (ro R :: F) := (Holds.pkF H44_ [3] 3 :)
 exact ⟨_, _, rfl, ⟨rfl, rfl⟩, S46_, H47_⟩

theorem spOut (R : HP) (ord : Int) (vb ve : Value) (kb ke : EK) (hb : EVal ord R vb kb) (he : EVal ord R ve ke) :
    Tri Try.prog 54 #[(vA #[vb, ve])] R [] (fun v__ post__ => v__ = (vA #[(Value.string ((ekSpan kb ke).in__Begin)), (Value.string ((ekSpan kb ke).in__End)), (vB ((ekSpan kb ke).in__Point)), (vI .i64 ((ekSpan kb ke).from_)), (vI .i64 ((ekSpan kb ke).till))]) ∧ post__ = []) := by
  rcases hb with ⟨o1, s, rfl, rfl⟩ | ⟨o1, s, rfl, rfl⟩ | ⟨o1, x, A, rfl, r1, rfl⟩ | ⟨o1, i, rfl, _, rfl⟩ <;> rcases he with ⟨o2, t, rfl, rfl⟩ | ⟨o2, t, rfl, rfl⟩ | ⟨o2, y, C, rfl, r2, rfl⟩ | ⟨o2, j, rfl, _, rfl⟩ <;> first | (exfalso; omega) | skip
  · refine (spOut0 R s t).mono fun v l h => ?_
    simpa only [ekSpan, text_t, num_t] using h
  · refine (spOut1 R s t).mono fun v l h => ?_
    simpa only [ekSpan, text_t, num_t] using h
  · refine (spOut2 R x y A C r1 r2).mono fun v l h => ?_
    simpa only [ekSpan, text_strN, num_t] using h
  · exact (spOut3 R i j).mono fun v l h => h
end Go.Proofs.Ytlnihndjepjagaa
set_option linter.unusedVariables false
set_option linter.unusedSimpArgs false
namespace Go.Proofs.Ytlnihndjepjagaa
open Go Go.RowKit Gw
open Go.Value renaming int → vI, bool → vB, slice → vS, pointer → vP, agg → vA, tuple → vT

section
variable {K : Type} {O : KO K}
/-- This interval is not that one. -/
def nk (kb ke : K) (n : ND K) : Prop := ¬ (n.kb = kb ∧ n.ke = ke)
theorem nk_left {kb ke : K} {C : List (Fr K)} {n : ND K} {a b : Tr K} (hs : srt O (inl C ++ ino (.nd n a b) ++ inr C)) (hb : bef O kb ke n) (h : ∀ x ∈ inl C ++ inr C, nk kb ke x) : ∀ x ∈ inl ((⟨true, n, b⟩ : Fr K) :: C) ++ inr ((⟨true, n, b⟩ : Fr K) :: C), nk kb ke x := by
  intro x hx
  have hx' : x ∈ inl C ∨ x = n.er ∨ x ∈ ino b ∨ x ∈ inr C := by simpa [inl, inr] using hx
  have hn : ¬ bef O kb ke ({ n with kb := kb, ke := ke } : ND K) := by
    rintro (h1 | ⟨_, h1⟩)
    · have h2 : O.cm kb kb < 0 := h1; rw [O.refl] at h2; omega
    · have h2 : O.cm ke ke < 0 := h1; rw [O.refl] at h2; omega
  have self : ∀ y : ND K, bef O kb ke y → nk kb ke y := by
    rintro y hy ⟨e1, e2⟩
    subst e1; subst e2
    rcases hy with h1 | ⟨_, h1⟩
    · rw [O.refl] at h1; omega
    · rw [O.refl] at h1; omega
  rcases hx' with hx | rfl | hx | hx
  · exact h x (List.mem_append.2 (.inl hx))
  · exact self n.er hb
  · refine self x (bef_mono (x := n.er) hb ?_)
    unfold srt at hs
    rw [List.pairwise_append, List.pairwise_append] at hs
    have := hs.1.2.1
    rw [ino, List.pairwise_append, List.pairwise_cons] at this
    exact this.2.1.1 x hx
  · exact h x (List.mem_append.2 (.inr hx))
theorem nk_right {kb ke : K} {C : List (Fr K)} {n : ND K} {a b : Tr K} (hs : srt O (inl C ++ ino (.nd n a b) ++ inr C)) (hb : ¬ bef O kb ke n) (hne : nk kb ke n) (h : ∀ x ∈ inl C ++ inr C, nk kb ke x) : ∀ x ∈ inl ((⟨false, n, a⟩ : Fr K) :: C) ++ inr ((⟨false, n, a⟩ : Fr K) :: C), nk kb ke x := by
  intro x hx
  have hx' : x ∈ inl C ∨ x ∈ ino a ∨ x = n.er ∨ x ∈ inr C := by simpa [inl, inr] using hx
  rcases hx' with hx | hx | rfl | hx
  · exact h x (List.mem_append.2 (.inl hx))
  · rintro ⟨e1, e2⟩
    subst e1; subst e2
    unfold srt at hs
    rw [List.pairwise_append, List.pairwise_append] at hs
    have := hs.1.2.1
    rw [ino, List.pairwise_append] at this
    have h2 : ¬ bef O n.kb n.ke x := this.2.2 x hx n.er (by simp)
    have f1 := @O.flip n.kb x.kb
    have f2 := @O.flip n.ke x.ke
    have f3 := @O.flip x.kb n.kb
    have f4 := @O.flip x.ke n.ke
    unfold bef at hb h2
    have e1 : O.cm n.kb x.kb = 0 := by omega
    have e3 : O.cm x.kb n.kb = 0 := by rw [O.anti e1]; exact O.refl _
    have e2 : O.cm n.ke x.ke = 0 := by omega
    exact hne ⟨O.anti e1, O.anti e2⟩
  · exact hne
  · exact h x (List.mem_append.2 (.inr hx))
theorem nk_end {kb ke : K} {C : List (Fr K)} (h : ∀ x ∈ inl C ++ inr C, nk kb ke x) : ∀ x ∈ ino (plug C (.lf : Tr K)), nk kb ke x := by
  rw [ino_plug]
  intro x hx
  exact h x (by simpa [ino] using hx)
theorem nk_of {kb ke : K} {n : ND K} (h : ¬ (O.cm kb n.kb = 0 ∧ O.cm ke n.ke = 0)) : nk kb ke n := by
  rintro ⟨e1, e2⟩
  subst e1; subst e2
  exact h ⟨O.refl _, O.refl _⟩
end

set_option maxHeartbeats 16000000 in
theorem itFind0 (R : HP) (K : Type) (O : KO K) (tb sb : Nat) (cnt : Int) (sc : List Value) (W : Tr K) (it jt : TypeId) (ix jx : Value) (kb ke : K) (hW : TOk O R W) (hs : srt O (ino W)) (hb : O.Val R (Value.iface it ix) kb) (he : O.Val R (Value.iface jt jx) ke) :
    Tri Try.prog 156 #[(vQ tb), (vA #[((Value.iface it ix)), ((Value.iface jt jx))])] R [cl tb 188 [(vQ (rt sb W)), (vI .i64 cnt), (vQ sb)], tr sb sb W, clf sb 185 sc] (fun v__ post__ => (v__ = (vQ sb) ∧ post__ = [cl tb 188 [(vQ (rt sb W)), (vI .i64 cnt), (vQ sb)], tr sb sb W, clf sb 185 sc] ∧ (∀ x ∈ ino W, nk kb ke x)) ∨ (∃ (C : List (Fr K)) (n : ND K) (a b : Tr K), v__ = (vQ n.a) ∧ post__ = [cl tb 188 [(vQ (rt sb W)), (vI .i64 cnt), (vQ sb)], clf n.a 185 [n.b, n.e, n.v, n.mx, (vQ (rt sb a)), (vQ (rt sb b)), (vQ (pa sb C)), (vI .i64 n.c)], tr sb n.a a, tr sb n.a b, cx sb n.a C, clf sb 185 sc] ∧ (plug C (.nd n a b) = W) ∧ (n.kb = kb ∧ n.ke = ke))) := by
 refine Tri.into (n := 70) (al := [(vQ tb), (vA #[((Value.iface it ix)), ((Value.iface jt jx))])]) Try.func156 rfl Try.ntmps156 rfl rfl fun w F H => ?_
 refine C_seq (fun K1_ hK1_ => C_reg ?_)
 refine S_list (T_box (v := (vA #[((Value.iface it ix)), ((Value.iface jt jx))])) rfl H ?_)
 intro b2_ w3_ S5_ H4_
 have S6_ := Same.trans (Same.refl w) S5_
 refine sv (v := (vP none)) (x_assign rfl) ?_
 refine wpList_nil (X_then (hK1_ _ _ ?_))
 clear hK1_
 refine C_seq (fun K7_ hK7_ => C_reg ?_)
 refine sv (v := (vQ tb)) (x_move rfl) ?_
 refine sv (v := (vQ tb)) (by kernel_rfl) ?_
 refine sv (v := (vQ tb)) (by kernel_rfl) ?_
 refine sv (v := (vQ (rt sb W))) (x_load1 rfl Try.underlying182 rfl ((Holds.rd H4_ 2 rfl) 0 (vQ (rt sb W)) rfl)) ?_
 refine sv (v := (vQ (rt sb W))) (x_assign rfl) ?_
 refine wpList_nil (X_then (hK7_ _ _ ?_))
 clear hK7_
 refine C_seq (fun K8_ hK8_ => ?_)
 refine C_block ?_
 have H9_ : Holds w3_ (cx sb (rt sb W) ([] : List (Fr K)) :: cl b2_ 111 [((Value.iface it ix)), ((Value.iface jt jx))] :: ro R :: cl tb 188 [(vQ (rt sb W)), (vI .i64 cnt), (vQ sb)] :: tr sb sb W :: clf sb 185 sc :: F) := Holds.cx_nil H4_
 have eH10_ : tr sb sb W = tr sb (pa sb ([] : List (Fr K))) W := by first | rfl | (congr 1 <;> first | rfl | omega | (simp; done) | (simp; omega))
 have H10_ : Holds w3_ (cx sb (rt sb W) ([] : List (Fr K)) :: cl b2_ 111 [((Value.iface it ix)), ((Value.iface jt jx))] :: ro R :: cl tb 188 [(vQ (rt sb W)), (vI .i64 cnt), (vQ sb)] :: tr sb (pa sb ([] : List (Fr K))) W :: clf sb 185 sc :: F) := cast1 (P := fun c__ => Holds w3_ (cx sb (rt sb W) ([] : List (Fr K)) :: cl b2_ 111 [((Value.iface it ix)), ((Value.iface jt jx))] :: ro R :: cl tb 188 [(vQ (rt sb W)), (vI .i64 cnt), (vQ sb)] :: c__ :: clf sb 185 sc :: F)) eH10_ H9_
 refine C_loop (γ := (List (Fr K)) × (Tr K) × Value) (fun x__ a__ w1__ => match x__ with | ⟨C1, T, t4_v⟩ => ∃ h : Env, a__ = mkA 70 (upd (upd (upd (upd h 0 (vQ tb)) 3 (vQ b2_)) 4 t4_v) 5 (vQ (rt sb T))) [] ∧ Holds w1__ (cx sb (rt sb T) C1 :: cl b2_ 111 [((Value.iface it ix)), ((Value.iface jt jx))] :: ro R :: cl tb 188 [(vQ (rt sb W)), (vI .i64 cnt), (vQ sb)] :: tr sb (pa sb C1) T :: clf sb 185 sc :: F) ∧ Same w w1__ ∧ (plug C1 T = W) ∧ (TOk O R T) ∧ (∀ x ∈ inl C1 ++ inr C1, nk kb ke x)) (fun x__ => match x__ with | ⟨C1, T, t4_v⟩ => (ino T).length) (⟨([] : List (Fr K)), W, (vP none)⟩) ⟨_, congrArg (fun e => mkA 70 e []) (ch (ch (ch (ch rfl rfl) rfl) (rfl : (vP none) = ((vP none)))) rfl), H10_, S6_, (rfl), (hW), (fun x hx => by simp [inl, inr] at hx)⟩ ?_
 rintro ⟨C1, T, t4_v⟩ _ w11_ ⟨h, rfl, H12_, S13_, hpl, hTk, hnk⟩
 refine C_seq (fun K14_ hK14_ => ?_)
 refine C_seq (fun K15_ hK15_ => C_reg ?_)
 rcases T with _ | ⟨f16_n, f16_a, f16_b⟩
 ·skip
  have H17_ : Holds w11_ (cx sb sb C1 :: cl b2_ 111 [((Value.iface it ix)), ((Value.iface jt jx))] :: ro R :: cl tb 188 [(vQ (rt sb W)), (vI .i64 cnt), (vQ sb)] :: tr sb (pa sb C1) (Tr.lf : Tr K) :: clf sb 185 sc :: F) := (H12_)
  refine sv (v := (vQ sb)) (x_move rfl) ?_
  refine sv (v := (vQ tb)) (x_move rfl) ?_
  refine sv (v := (vQ tb)) (by kernel_rfl) ?_
  refine sv (v := (vP (some ⟨tb, 2, none⟩))) (by kernel_rfl) ?_
  refine sv (v := (vQ sb)) (x_load1 rfl Try.underlying182 rfl ((Holds.rd H17_ 3 rfl) 2 (vQ sb) rfl)) ?_
  refine sv (v := (vB false)) (x_neP rfl rfl Try.underlying182 z185) ?_
  refine wpList_nil (X_then (hK15_ _ _ ?_))
  clear hK15_
  refine C_condF rfl ?_
  refine C_exit (X_thenX (X_thenX (X_blkHit ?_)))
  refine (X_then (hK8_ _ _ ?_))
  clear hK8_
  refine C_seq (fun K18_ hK18_ => C_reg ?_)
  refine sv (v := (vQ sb)) (x_move rfl) ?_
  refine sv (v := (vQ sb)) (x_assign rfl) ?_
  refine wpList_nil (X_then (hK18_ _ _ ?_))
  clear hK18_
  refine C_ret ?_
  refine R_any (v := (vQ sb)) (run_results1 rfl rfl) ?_
  have H19_ : Holds w11_ (cx sb (rt sb (Tr.lf : Tr K)) C1 :: cl b2_ 111 [((Value.iface it ix)), ((Value.iface jt jx))] :: ro R :: cl tb 188 [(vQ (rt sb W)), (vI .i64 cnt), (vQ sb)] :: tr sb (pa sb C1) (Tr.lf : Tr K) :: clf sb 185 sc :: F) := (H17_)
  have H20_ := ((Holds.bring H19_ 4 rfl) :)
  have H21_ := Holds.plug_in (C := C1) (t := (Tr.lf : Tr K)) H20_
  have H22_ := H21_; rw [hpl] at H22_
  have H23_ : Holds w11_ (ro R :: cl tb 188 [(vQ (rt sb W)), (vI .i64 cnt), (vQ sb)] :: tr sb sb W :: clf sb 185 sc :: F) := (Holds.pkF H22_ [2, 2, 0, 1] 1 :)
  exact ⟨_, _, rfl, (.inl ⟨rfl, rfl, (by rw [← hpl]; exact nk_end hnk)⟩), S13_, H23_⟩
 ·skip
  have H24_ : Holds w11_ (cx sb f16_n.a C1 :: cl b2_ 111 [((Value.iface it ix)), ((Value.iface jt jx))] :: ro R :: cl tb 188 [(vQ (rt sb W)), (vI .i64 cnt), (vQ sb)] :: tr sb (pa sb C1) (Tr.nd f16_n f16_a f16_b) :: clf sb 185 sc :: F) := (H12_)
  have H25_ := ((Holds.bring H24_ 4 rfl) :)
  have H26_ := Holds.tr_nd H25_
  refine sv (v := (vQ f16_n.a)) (x_move rfl) ?_
  refine sv (v := (vQ tb)) (x_move rfl) ?_
  refine sv (v := (vQ tb)) (by kernel_rfl) ?_
  refine sv (v := (vP (some ⟨tb, 2, none⟩))) (by kernel_rfl) ?_
  refine sv (v := (vQ sb)) (x_load1 rfl Try.underlying182 rfl ((Holds.rd H26_ 6 rfl) 2 (vQ sb) rfl)) ?_
  have hpc27_ : f16_n.a ≠ sb := Holds.ne_f H26_ 0 rfl 7 rfl (by decide)
  refine sv (v := (vB true)) (x_cast (x_nePN rfl rfl Try.underlying182 z185 (by decide) (Holds.blk H26_ 0 rfl) (Holds.blk H26_ 7 rfl)) (congrArg vB (decide_eq_true hpc27_))) ?_
  refine wpList_nil (X_then (hK15_ _ _ ?_))
  clear hK15_
  refine C_condT rfl ?_
  refine C_skip (X_then (hK14_ _ _ ?_))
  clear hK14_
  refine C_block ?_
  refine C_seq (fun K28_ hK28_ => ?_)
  refine A_start (S := fun w => (Rd f16_n.a [f16_n.b, f16_n.e, f16_n.v, f16_n.mx, (vQ (rt sb f16_a)), (vQ (rt sb f16_b)), (vQ (pa sb C1)), (vI .i64 f16_n.c)] w ∧ Blk w f16_n.a) ∧ RtRd w (rt sb f16_a) (rmx f16_a) ∧ RtRd w (rt sb f16_b) (rmx f16_b) ∧ Rd b2_ [((Value.iface it ix)), ((Value.iface jt jx))] w ∧ Sub R (hp w)) (N := 12) foll rfl rfl ?_
  have H29_ := Holds.drew_ H26_
  have hq30_ := And.intro ((And.intro (Holds.rdf H29_ 0 rfl) (Holds.blk H29_ 0 rfl))) (And.intro (Holds.tr_rd H29_ 1 rfl 7 rfl) (And.intro (Holds.tr_rd H29_ 2 rfl 7 rfl) (And.intro (Holds.rd H29_ 4 rfl) ((Holds.ro_at H29_ 5 rfl)))))
  refine A_tk 0 (v := (vQ b2_)) rfl (by kernel_rfl) (fun w hS => by kernel_rfl) hq30_ ?_
  refine A_tk 1 (v := ((Value.iface it ix))) rfl (by kernel_rfl) (fun w hS => x_load1 rfl Try.underlying109 rfl (hS.2.2.2.1 0 ((Value.iface it ix)) rfl)) hq30_ ?_
  refine A_tk 2 (v := (vQ f16_n.a)) rfl (by kernel_rfl) (fun w hS => x_move rfl) hq30_ ?_
  refine A_tk 3 (v := (vQ f16_n.a)) rfl (by kernel_rfl) (fun w hS => by kernel_rfl) hq30_ ?_
  refine A_tk 4 (v := (vQ f16_n.a)) rfl (by kernel_rfl) (fun w hS => by kernel_rfl) hq30_ ?_
  refine A_tk 5 (v := (vQ f16_n.a)) rfl (by kernel_rfl) (fun w hS => by kernel_rfl) hq30_ ?_
  refine A_tk 6 (v := (vQ f16_n.a)) rfl (by kernel_rfl) (fun w hS => by kernel_rfl) hq30_ ?_
  refine A_tk 7 (v := f16_n.b) rfl (by kernel_rfl) (fun w hS => x_load1 rfl Try.underlying109 rfl (hS.1.1 0 f16_n.b rfl)) hq30_ ?_
  refine A_tk 8 (v := ((Value.iface it ix))) rfl (by kernel_rfl) (fun w hS => by kernel_rfl) hq30_ ?_
  refine A_tk 9 (v := ((Value.iface it ix))) rfl (by kernel_rfl) (fun w hS => x_move rfl) hq30_ ?_
  refine A_ready (i := 10) (rs := []) (by kernel_rfl) ?_
  refine AllR.cons ?_ AllR.nil
  refine A_op (ls' := #[true, true, true, true, true, true, true, true, true, true, true, false]) rfl (by kernel_rfl) (T_cmp rfl rfl (O.cmp hb (hTk.1.b)) H29_ 5 rfl ?_)
  intro w31_ S33_ H32_
  have S34_ := Same.trans (Same.trans S13_ (Same.drew _)) S33_
  refine ⟨⟨(And.intro (Holds.rdf H32_ 0 rfl) (Holds.blk H32_ 0 rfl)), Holds.tr_rd H32_ 1 rfl 7 rfl, Holds.tr_rd H32_ 2 rfl 7 rfl, Holds.rd H32_ 4 rfl, (Holds.ro_at H32_ 5 rfl)⟩, ?_⟩
  have hq35_ := And.intro ((And.intro (Holds.rdf H32_ 0 rfl) (Holds.blk H32_ 0 rfl))) (And.intro (Holds.tr_rd H32_ 1 rfl 7 rfl) (And.intro (Holds.tr_rd H32_ 2 rfl 7 rfl) (And.intro (Holds.rd H32_ 4 rfl) ((Holds.ro_at H32_ 5 rfl)))))
  refine A_tk 11 (v := (vI .i64 (O.cm kb f16_n.kb))) rfl (by kernel_rfl) (fun w hS => x_assign rfl) hq35_ ?_
  refine A_done (by kernel_rfl) ?_
  refine (X_then (hK28_ _ _ ?_))
  clear hK28_
  refine C_seq (fun K36_ hK36_ => ?_)
  refine A_start (S := fun w => (Rd f16_n.a [f16_n.b, f16_n.e, f16_n.v, f16_n.mx, (vQ (rt sb f16_a)), (vQ (rt sb f16_b)), (vQ (pa sb C1)), (vI .i64 f16_n.c)] w ∧ Blk w f16_n.a) ∧ RtRd w (rt sb f16_a) (rmx f16_a) ∧ RtRd w (rt sb f16_b) (rmx f16_b) ∧ Rd b2_ [((Value.iface it ix)), ((Value.iface jt jx))] w ∧ Sub R (hp w)) (N := 12) foll rfl rfl ?_
  have H37_ := Holds.drew_ H32_
  have hq38_ := And.intro ((And.intro (Holds.rdf H37_ 0 rfl) (Holds.blk H37_ 0 rfl))) (And.intro (Holds.tr_rd H37_ 1 rfl 7 rfl) (And.intro (Holds.tr_rd H37_ 2 rfl 7 rfl) (And.intro (Holds.rd H37_ 4 rfl) ((Holds.ro_at H37_ 5 rfl)))))
  refine A_tk 0 (v := (vP (some ⟨b2_, 1, none⟩))) rfl (by kernel_rfl) (fun w hS => by kernel_rfl) hq38_ ?_
  refine A_tk 1 (v := ((Value.iface jt jx))) rfl (by kernel_rfl) (fun w hS => x_load1 rfl Try.underlying109 rfl (hS.2.2.2.1 1 ((Value.iface jt jx)) rfl)) hq38_ ?_
  refine A_tk 2 (v := (vQ f16_n.a)) rfl (by kernel_rfl) (fun w hS => x_move rfl) hq38_ ?_
  refine A_tk 3 (v := (vQ f16_n.a)) rfl (by kernel_rfl) (fun w hS => by kernel_rfl) hq38_ ?_
  refine A_tk 4 (v := (vQ f16_n.a)) rfl (by kernel_rfl) (fun w hS => by kernel_rfl) hq38_ ?_
  refine A_tk 5 (v := (vQ f16_n.a)) rfl (by kernel_rfl) (fun w hS => by kernel_rfl) hq38_ ?_
  refine A_tk 6 (v := (vP (some ⟨f16_n.a, 1, none⟩))) rfl (by kernel_rfl) (fun w hS => by kernel_rfl) hq38_ ?_
  refine A_tk 7 (v := f16_n.e) rfl (by kernel_rfl) (fun w hS => x_load1 rfl Try.underlying109 rfl (hS.1.1 1 f16_n.e rfl)) hq38_ ?_
  refine A_tk 8 (v := ((Value.iface jt jx))) rfl (by kernel_rfl) (fun w hS => by kernel_rfl) hq38_ ?_
  refine A_tk 9 (v := ((Value.iface jt jx))) rfl (by kernel_rfl) (fun w hS => x_move rfl) hq38_ ?_
  refine A_ready (i := 10) (rs := []) (by kernel_rfl) ?_
  refine AllR.cons ?_ AllR.nil
  refine A_op (ls' := #[true, true, true, true, true, true, true, true, true, true, true, false]) rfl (by kernel_rfl) (T_cmp rfl rfl (O.cmp he (hTk.1.e)) H37_ 5 rfl ?_)
  intro w39_ S41_ H40_
  have S42_ := Same.trans (Same.trans S34_ (Same.drew _)) S41_
  refine ⟨⟨(And.intro (Holds.rdf H40_ 0 rfl) (Holds.blk H40_ 0 rfl)), Holds.tr_rd H40_ 1 rfl 7 rfl, Holds.tr_rd H40_ 2 rfl 7 rfl, Holds.rd H40_ 4 rfl, (Holds.ro_at H40_ 5 rfl)⟩, ?_⟩
  have hq43_ := And.intro ((And.intro (Holds.rdf H40_ 0 rfl) (Holds.blk H40_ 0 rfl))) (And.intro (Holds.tr_rd H40_ 1 rfl 7 rfl) (And.intro (Holds.tr_rd H40_ 2 rfl 7 rfl) (And.intro (Holds.rd H40_ 4 rfl) ((Holds.ro_at H40_ 5 rfl)))))
  refine A_tk 11 (v := (vI .i64 (O.cm ke f16_n.ke))) rfl (by kernel_rfl) (fun w hS => x_assign rfl) hq43_ ?_
  refine A_done (by kernel_rfl) ?_
  refine (X_then (hK36_ _ _ ?_))
  clear hK36_
  refine C_seq (fun K44_ hK44_ => ?_)
  refine C_seq (fun K45_ hK45_ => C_reg ?_)
  refine sv (v := (vI .i64 (O.cm kb f16_n.kb))) (x_move rfl) ?_
  refine sv (v := (vB (decide (O.cm kb f16_n.kb = 0)))) (x_bin rfl rfl rfl) ?_
  refine sv (v := (vB (decide (O.cm kb f16_n.kb = 0)))) (x_move rfl) ?_
  rcases Bool.eq_false_or_eq_true (decide (O.cm kb f16_n.kb = 0)) with c46_t | c46_f
  ·have c46_tp : O.cm kb f16_n.kb = 0 := of_decide_eq_true c46_t
   refine S_yes (j := 2) (dj := 42) (b := true) rfl rfl (congrArg vB c46_t) (T_val (v := (vI .i64 (O.cm ke f16_n.ke))) (x_move rfl) ?_)
   refine S_yes (j := 2) (dj := 42) (b := true) rfl rfl (congrArg vB c46_t) (T_val (v := (vB (decide (O.cm ke f16_n.ke = 0)))) (x_bin rfl rfl rfl) ?_)
   refine S_list (T_pickT (v := (vB (decide (O.cm ke f16_n.ke = 0)))) (congrArg vB c46_t) rfl ?_)
   refine wpList_nil (X_then (hK45_ _ _ ?_))
   clear hK45_
   refine C_cond (b := decide (O.cm ke f16_n.ke = 0)) rfl (fun c47_t => ?_) (fun c47_f => ?_)
   ·have c47_tp : O.cm ke f16_n.ke = 0 := of_decide_eq_true c47_t
    refine C_seq (fun K48_ hK48_ => C_reg ?_)
    refine sv (v := (vQ f16_n.a)) (x_move rfl) ?_
    refine sv (v := (vQ f16_n.a)) (x_assign rfl) ?_
    refine wpList_nil (X_then (hK48_ _ _ ?_))
    clear hK48_
    refine C_ret (X_thenR (X_blkR (X_thenR (X_blkR (X_thenR ?_)))))
    refine R_any (v := (vQ f16_n.a)) (run_results1 rfl rfl) ?_
    have H49_ : Holds w39_ (ro R :: cl tb 188 [(vQ (rt sb W)), (vI .i64 cnt), (vQ sb)] :: clf f16_n.a 185 [f16_n.b, f16_n.e, f16_n.v, f16_n.mx, (vQ (rt sb f16_a)), (vQ (rt sb f16_b)), (vQ (pa sb C1)), (vI .i64 f16_n.c)] :: tr sb f16_n.a f16_a :: tr sb f16_n.a f16_b :: cx sb f16_n.a C1 :: clf sb 185 sc :: F) := (Holds.pkF H40_ [5, 5, 0, 0, 0, 0, 1] 1 :)
    exact ⟨_, _, rfl, (.inr ⟨C1, f16_n, f16_a, f16_b, rfl, rfl, (hpl), (⟨(O.anti (by omega)).symm, (O.anti (by omega)).symm⟩)⟩), S42_, H49_⟩
   ·have c47_fp : ¬ (O.cm ke f16_n.ke = 0) := of_decide_eq_false c47_f
    refine C_skip (X_then (hK44_ _ _ ?_))
    clear hK44_
    refine C_seq (fun K50_ hK50_ => C_reg ?_)
    refine sv (v := (vI .i64 (O.cm kb f16_n.kb))) (x_move rfl) ?_
    refine sv (v := (vB (decide (O.cm kb f16_n.kb < 0)))) (x_bin rfl rfl rfl) ?_
    refine wpList_nil (X_then (hK50_ _ _ ?_))
    clear hK50_
    refine C_cond (b := decide (O.cm kb f16_n.kb < 0)) rfl (fun c51_t => ?_) (fun c51_f => ?_)
    ·have c51_tp : O.cm kb f16_n.kb < 0 := of_decide_eq_true c51_t
     refine C_reg ?_
     refine sv (v := (vQ f16_n.a)) (x_move rfl) ?_
     refine sv (v := (vQ f16_n.a)) (by kernel_rfl) ?_
     refine sv (v := (vP (some ⟨f16_n.a, 4, none⟩))) (by kernel_rfl) ?_
     refine sv (v := (vQ (rt sb f16_a))) (x_load1 rfl Try.underlying182 rfl ((Holds.rdf H40_ 0 rfl) 4 (vQ (rt sb f16_a)) rfl)) ?_
     refine sv (v := (vQ (rt sb f16_a))) (x_assign rfl) ?_
     refine wpList_nil (X_blkN (X_then ?_))
     have H52_ := ((Holds.bring (Holds.bring (Holds.bring H40_ 3 rfl) 3 rfl) 2 rfl) :)
     have H53_ := Holds.cons_cx (sb := sb) (f := (⟨true, f16_n, f16_b⟩ : Fr K)) (C := C1) (x := (rt sb f16_a)) H52_
     have H54_ : Holds w39_ (cx sb (rt sb f16_a) ((⟨true, f16_n, f16_b⟩ : Fr K) :: C1) :: tr sb (pa sb ((⟨true, f16_n, f16_b⟩ : Fr K) :: C1)) f16_a :: cl b2_ 111 [((Value.iface it ix)), ((Value.iface jt jx))] :: ro R :: cl tb 188 [(vQ (rt sb W)), (vI .i64 cnt), (vQ sb)] :: clf sb 185 sc :: F) := (H53_)
     have H55_ : Holds w39_ (cx sb (rt sb f16_a) ((⟨true, f16_n, f16_b⟩ : Fr K) :: C1) :: cl b2_ 111 [((Value.iface it ix)), ((Value.iface jt jx))] :: ro R :: cl tb 188 [(vQ (rt sb W)), (vI .i64 cnt), (vQ sb)] :: tr sb (pa sb ((⟨true, f16_n, f16_b⟩ : Fr K) :: C1)) f16_a :: clf sb 185 sc :: F) := (Holds.pkF H54_ [0, 1, 1, 1, 0, 0] 0 :)
     exact ⟨⟨((⟨true, f16_n, f16_b⟩ : Fr K) :: C1), f16_a, t4_v⟩, ⟨_, congrArg (fun e => mkA 70 e []) (ch (ch (ch (ch rfl rfl) rfl) rfl) rfl), H55_, S42_, (hpl), (hTk.2.1), (nk_left (O := O) (a := f16_a) (by have := hs; rw [← hpl, ino_plug] at this; exact this) (by unfold bef; omega) hnk)⟩, (by first | (simp [ino]; done) | (simp [ino]; omega))⟩
    ·have c51_fp : ¬ (O.cm kb f16_n.kb < 0) := of_decide_eq_false c51_f
     refine C_seq (fun K56_ hK56_ => C_reg ?_)
     refine sv (v := (vI .i64 (O.cm kb f16_n.kb))) (x_move rfl) ?_
     refine sv (v := (vB (decide (O.cm kb f16_n.kb = 0)))) (x_bin rfl rfl rfl) ?_
     refine wpList_nil (X_then (hK56_ _ _ ?_))
     clear hK56_
     refine C_condT (congrArg vB c46_t) ?_
     refine C_seq (fun K57_ hK57_ => C_reg ?_)
     refine sv (v := (vI .i64 (O.cm ke f16_n.ke))) (x_move rfl) ?_
     refine sv (v := (vB (decide (O.cm ke f16_n.ke < 0)))) (x_bin rfl rfl rfl) ?_
     refine wpList_nil (X_then (hK57_ _ _ ?_))
     clear hK57_
     refine C_cond (b := decide (O.cm ke f16_n.ke < 0)) rfl (fun c58_t => ?_) (fun c58_f => ?_)
     ·have c58_tp : O.cm ke f16_n.ke < 0 := of_decide_eq_true c58_t
      refine C_reg ?_
      refine sv (v := (vQ f16_n.a)) (x_move rfl) ?_
      refine sv (v := (vQ f16_n.a)) (by kernel_rfl) ?_
      refine sv (v := (vP (some ⟨f16_n.a, 4, none⟩))) (by kernel_rfl) ?_
      refine sv (v := (vQ (rt sb f16_a))) (x_load1 rfl Try.underlying182 rfl ((Holds.rdf H40_ 0 rfl) 4 (vQ (rt sb f16_a)) rfl)) ?_
      refine sv (v := (vQ (rt sb f16_a))) (x_assign rfl) ?_
      refine wpList_nil (X_blkN (X_then ?_))
      have H59_ := ((Holds.bring (Holds.bring (Holds.bring H40_ 3 rfl) 3 rfl) 2 rfl) :)
      have H60_ := Holds.cons_cx (sb := sb) (f := (⟨true, f16_n, f16_b⟩ : Fr K)) (C := C1) (x := (rt sb f16_a)) H59_
      have H61_ : Holds w39_ (cx sb (rt sb f16_a) ((⟨true, f16_n, f16_b⟩ : Fr K) :: C1) :: tr sb (pa sb ((⟨true, f16_n, f16_b⟩ : Fr K) :: C1)) f16_a :: cl b2_ 111 [((Value.iface it ix)), ((Value.iface jt jx))] :: ro R :: cl tb 188 [(vQ (rt sb W)), (vI .i64 cnt), (vQ sb)] :: clf sb 185 sc :: F) := (H60_)
      have H62_ : Holds w39_ (cx sb (rt sb f16_a) ((⟨true, f16_n, f16_b⟩ : Fr K) :: C1) :: cl b2_ 111 [((Value.iface it ix)), ((Value.iface jt jx))] :: ro R :: cl tb 188 [(vQ (rt sb W)), (vI .i64 cnt), (vQ sb)] :: tr sb (pa sb ((⟨true, f16_n, f16_b⟩ : Fr K) :: C1)) f16_a :: clf sb 185 sc :: F) := (Holds.pkF H61_ [0, 1, 1, 1, 0, 0] 0 :)
      exact ⟨⟨((⟨true, f16_n, f16_b⟩ : Fr K) :: C1), f16_a, t4_v⟩, ⟨_, congrArg (fun e => mkA 70 e []) (ch (ch (ch (ch rfl rfl) rfl) rfl) rfl), H62_, S42_, (hpl), (hTk.2.1), (nk_left (O := O) (a := f16_a) (by have := hs; rw [← hpl, ino_plug] at this; exact this) (by unfold bef; omega) hnk)⟩, (by first | (simp [ino]; done) | (simp [ino]; omega))⟩
     ·have c58_fp : ¬ (O.cm ke f16_n.ke < 0) := of_decide_eq_false c58_f
      refine C_reg ?_
      refine sv (v := (vQ f16_n.a)) (x_move rfl) ?_
      refine sv (v := (vQ f16_n.a)) (by kernel_rfl) ?_
      refine sv (v := (vP (some ⟨f16_n.a, 5, none⟩))) (by kernel_rfl) ?_
      refine sv (v := (vQ (rt sb f16_b))) (x_load1 rfl Try.underlying182 rfl ((Holds.rdf H40_ 0 rfl) 5 (vQ (rt sb f16_b)) rfl)) ?_
      refine sv (v := (vQ (rt sb f16_b))) (x_assign rfl) ?_
      refine wpList_nil (X_blkN (X_then ?_))
      have H63_ := ((Holds.bring (Holds.bring (Holds.bring H40_ 3 rfl) 2 rfl) 2 rfl) :)
      have H64_ := Holds.cons_cx (sb := sb) (f := (⟨false, f16_n, f16_a⟩ : Fr K)) (C := C1) (x := (rt sb f16_b)) H63_
      have H65_ : Holds w39_ (cx sb (rt sb f16_b) ((⟨false, f16_n, f16_a⟩ : Fr K) :: C1) :: tr sb (pa sb ((⟨false, f16_n, f16_a⟩ : Fr K) :: C1)) f16_b :: cl b2_ 111 [((Value.iface it ix)), ((Value.iface jt jx))] :: ro R :: cl tb 188 [(vQ (rt sb W)), (vI .i64 cnt), (vQ sb)] :: clf sb 185 sc :: F) := (H64_)
      have H66_ : Holds w39_ (cx sb (rt sb f16_b) ((⟨false, f16_n, f16_a⟩ : Fr K) :: C1) :: cl b2_ 111 [((Value.iface it ix)), ((Value.iface jt jx))] :: ro R :: cl tb 188 [(vQ (rt sb W)), (vI .i64 cnt), (vQ sb)] :: tr sb (pa sb ((⟨false, f16_n, f16_a⟩ : Fr K) :: C1)) f16_b :: clf sb 185 sc :: F) := (Holds.pkF H65_ [0, 1, 1, 1, 0, 0] 0 :)
      exact ⟨⟨((⟨false, f16_n, f16_a⟩ : Fr K) :: C1), f16_b, t4_v⟩, ⟨_, congrArg (fun e => mkA 70 e []) (ch (ch (ch (ch rfl rfl) rfl) rfl) rfl), H66_, S42_, (hpl), (hTk.2.2), (nk_right (O := O) (b := f16_b) (by have := hs; rw [← hpl, ino_plug] at this; exact this) (by unfold bef; omega) (nk_of (O := O) (by omega)) hnk)⟩, (by first | (simp [ino]; done) | (simp [ino]; omega))⟩
  ·have c46_fp : ¬ (O.cm kb f16_n.kb = 0) := of_decide_eq_false c46_f
   refine S_no (j := 2) (dj := 42) (b := false) rfl rfl (congrArg vB c46_f) (by decide) ?_
   refine S_no (j := 2) (dj := 42) (b := false) rfl rfl (congrArg vB c46_f) (by decide) ?_
   refine S_list (T_pickF (v := (vB false)) (congrArg vB c46_f) rfl ?_)
   refine wpList_nil (X_then (hK45_ _ _ ?_))
   clear hK45_
   refine C_condF rfl ?_
   refine C_skip (X_then (hK44_ _ _ ?_))
   clear hK44_
   refine C_seq (fun K67_ hK67_ => C_reg ?_)
   refine sv (v := (vI .i64 (O.cm kb f16_n.kb))) (x_move rfl) ?_
   refine sv (v := (vB (decide (O.cm kb f16_n.kb < 0)))) (x_bin rfl rfl rfl) ?_
   refine wpList_nil (X_then (hK67_ _ _ ?_))
   clear hK67_
   refine C_cond (b := decide (O.cm kb f16_n.kb < 0)) rfl (fun c68_t => ?_) (fun c68_f => ?_)
   ·have c68_tp : O.cm kb f16_n.kb < 0 := of_decide_eq_true c68_t
    refine C_reg ?_
    refine sv (v := (vQ f16_n.a)) (x_move rfl) ?_
    refine sv (v := (vQ f16_n.a)) (by kernel_rfl) ?_
    refine sv (v := (vP (some ⟨f16_n.a, 4, none⟩))) (by kernel_rfl) ?_
    refine sv (v := (vQ (rt sb f16_a))) (x_load1 rfl Try.underlying182 rfl ((Holds.rdf H40_ 0 rfl) 4 (vQ (rt sb f16_a)) rfl)) ?_
    refine sv (v := (vQ (rt sb f16_a))) (x_assign rfl) ?_
    refine wpList_nil (X_blkN (X_then ?_))
    have H69_ := ((Holds.bring (Holds.bring (Holds.bring H40_ 3 rfl) 3 rfl) 2 rfl) :)
    have H70_ := Holds.cons_cx (sb := sb) (f := (⟨true, f16_n, f16_b⟩ : Fr K)) (C := C1) (x := (rt sb f16_a)) H69_
    have H71_ : Holds w39_ (cx sb (rt sb f16_a) ((⟨true, f16_n, f16_b⟩ : Fr K) :: C1) :: tr sb (pa sb ((⟨true, f16_n, f16_b⟩ : Fr K) :: C1)) f16_a :: cl b2_ 111 [((Value.iface it ix)), ((Value.iface jt jx))] :: ro R :: cl tb 188 [(vQ (rt sb W)), (vI .i64 cnt), (vQ sb)] :: clf sb 185 sc :: F) := (H70_)
    have H72_ : Holds w39_ (cx sb (rt sb f16_a) ((⟨true, f16_n, f16_b⟩ : Fr K) :: C1) :: cl b2_ 111 [((Value.iface it ix)), ((Value.iface jt jx))] :: ro R :: cl tb 188 [(vQ (rt sb W)), (vI .i64 cnt), (vQ sb)] :: tr sb (pa sb ((⟨true, f16_n, f16_b⟩ : Fr K) :: C1)) f16_a :: clf sb 185 sc :: F) := (Holds.pkF H71_ [0, 1, 1, 1, 0, 0] 0 :)
    exact ⟨⟨((⟨true, f16_n, f16_b⟩ : Fr K) :: C1), f16_a, t4_v⟩, ⟨_, congrArg (fun e => mkA 70 e []) (ch (ch (ch (ch rfl rfl) rfl) rfl) rfl), H72_, S42_, (hpl), (hTk.2.1), (nk_left (O := O) (a := f16_a) (by have := hs; rw [← hpl, ino_plug] at this; exact this) (by unfold bef; omega) hnk)⟩, (by first | (simp [ino]; done) | (simp [ino]; omega))⟩
   ·have c68_fp : ¬ (O.cm kb f16_n.kb < 0) := of_decide_eq_false c68_f
    refine C_seq (fun K73_ hK73_ => C_reg ?_)
    refine sv (v := (vI .i64 (O.cm kb f16_n.kb))) (x_move rfl) ?_
    refine sv (v := (vB (decide (O.cm kb f16_n.kb = 0)))) (x_bin rfl rfl rfl) ?_
    refine wpList_nil (X_then (hK73_ _ _ ?_))
    clear hK73_
    refine C_condF (congrArg vB c46_f) ?_
    refine C_reg ?_
    refine sv (v := (vQ f16_n.a)) (x_move rfl) ?_
    refine sv (v := (vQ f16_n.a)) (by kernel_rfl) ?_
    refine sv (v := (vP (some ⟨f16_n.a, 5, none⟩))) (by kernel_rfl) ?_
    refine sv (v := (vQ (rt sb f16_b))) (x_load1 rfl Try.underlying182 rfl ((Holds.rdf H40_ 0 rfl) 5 (vQ (rt sb f16_b)) rfl)) ?_
    refine sv (v := (vQ (rt sb f16_b))) (x_assign rfl) ?_
    refine wpList_nil (X_blkN (X_then ?_))
    have H74_ := ((Holds.bring (Holds.bring (Holds.bring H40_ 3 rfl) 2 rfl) 2 rfl) :)
    have H75_ := Holds.cons_cx (sb := sb) (f := (⟨false, f16_n, f16_a⟩ : Fr K)) (C := C1) (x := (rt sb f16_b)) H74_
    have H76_ : Holds w39_ (cx sb (rt sb f16_b) ((⟨false, f16_n, f16_a⟩ : Fr K) :: C1) :: tr sb (pa sb ((⟨false, f16_n, f16_a⟩ : Fr K) :: C1)) f16_b :: cl b2_ 111 [((Value.iface it ix)), ((Value.iface jt jx))] :: ro R :: cl tb 188 [(vQ (rt sb W)), (vI .i64 cnt), (vQ sb)] :: clf sb 185 sc :: F) := (H75_)
    have H77_ : Holds w39_ (cx sb (rt sb f16_b) ((⟨false, f16_n, f16_a⟩ : Fr K) :: C1) :: cl b2_ 111 [((Value.iface it ix)), ((Value.iface jt jx))] :: ro R :: cl tb 188 [(vQ (rt sb W)), (vI .i64 cnt), (vQ sb)] :: tr sb (pa sb ((⟨false, f16_n, f16_a⟩ : Fr K) :: C1)) f16_b :: clf sb 185 sc :: F) := (Holds.pkF H76_ [0, 1, 1, 1, 0, 0] 0 :)
    exact ⟨⟨((⟨false, f16_n, f16_a⟩ : Fr K) :: C1), f16_b, t4_v⟩, ⟨_, congrArg (fun e => mkA 70 e []) (ch (ch (ch (ch rfl rfl) rfl) rfl) rfl), H77_, S42_, (hpl), (hTk.2.2), (nk_right (O := O) (b := f16_b) (by have := hs; rw [← hpl, ino_plug] at this; exact this) (by unfold bef; omega) (nk_of (O := O) (by omega)) hnk)⟩, (by first | (simp [ino]; done) | (simp [ino]; omega))⟩

set_option maxHeartbeats 8000000 in
theorem itFind (R : HP) (K : Type) (O : KO K) (tb sb : Nat) (cnt : Int) (sc : List Value) (W : Tr K) (it jt : TypeId) (ix jx : Value) (kb ke : K) (hW : TOk O R W) (hs : srt O (ino W)) (hb : O.Val R (Value.iface it ix) kb) (he : O.Val R (Value.iface jt jx) ke) :
    Tri Try.prog 145 #[(vQ tb), (vA #[((Value.iface it ix)), ((Value.iface jt jx))])] R [cl tb 188 [(vQ (rt sb W)), (vI .i64 cnt), (vQ sb)], tr sb sb W, clf sb 185 sc] (fun v__ post__ => (v__ = (vP none) ∧ post__ = [cl tb 188 [(vQ (rt sb W)), (vI .i64 cnt), (vQ sb)], tr sb sb W, clf sb 185 sc] ∧ (∀ x ∈ ino W, nk kb ke x)) ∨ (∃ (C : List (Fr K)) (n : ND K) (a b : Tr K), v__ = (vQ n.a) ∧ post__ = [cl tb 188 [(vQ (rt sb W)), (vI .i64 cnt), (vQ sb)], clf n.a 185 [n.b, n.e, n.v, n.mx, (vQ (rt sb a)), (vQ (rt sb b)), (vQ (pa sb C)), (vI .i64 n.c)], tr sb n.a a, tr sb n.a b, cx sb n.a C, clf sb 185 sc] ∧ (plug C (.nd n a b) = W) ∧ (n.kb = kb ∧ n.ke = ke))) := by
 refine Tri.into (n := 18) (al := [(vQ tb), (vA #[((Value.iface it ix)), ((Value.iface jt jx))])]) Try.func145 rfl Try.ntmps145 rfl rfl fun w F H => ?_
 refine C_seq (fun K1_ hK1_ => C_reg ?_)
 refine S_list (T_box (v := (vA #[((Value.iface it ix)), ((Value.iface jt jx))])) rfl H ?_)
 intro b2_ w3_ S5_ H4_
 have S6_ := Same.trans (Same.refl w) S5_
 refine sv (v := (vP none)) (x_assign rfl) ?_
 refine wpList_nil (X_then (hK1_ _ _ ?_))
 clear hK1_
 refine C_seq (fun K7_ hK7_ => C_reg ?_)
 refine sv (v := (vQ tb)) (x_move rfl) ?_
 refine sv (v := (vA #[((Value.iface it ix)), ((Value.iface jt jx))])) (x_loadN (vs := [((Value.iface it ix)), ((Value.iface jt jx))]) rfl Try.underlying111 rfl z111 rfl (Rd.cells (Holds.rd H4_ 0 rfl) 0 rfl)) ?_
 have H16_ := ((Holds.bring (Holds.bring (Holds.bring (Holds.bring H4_ 4 rfl) 4 rfl) 4 rfl) 4 rfl) :)
 refine S_list (T_call (al := [(vQ tb), (vA #[((Value.iface it ix)), ((Value.iface jt jx))])]) (pre := [cl tb 188 [(vQ (rt sb W)), (vI .i64 cnt), (vQ sb)], tr sb sb W, clf sb 185 sc]) rfl rfl cb156 (itFind0 R K O tb sb cnt sc W it jt ix jx kb ke (hW) (hs) (hb) (he)) H16_ ?_)
 rintro v8_ p20_ w17_ hq21_ S19_ H18_
 rcases hq21_ with ⟨rfl, rfl, he9_⟩ | ⟨C10_, n11_, a12_, b13_, rfl, rfl, he14_, he15_⟩
 ·skip
  have S22_ := Same.trans S6_ S19_
  refine sv (v := (vQ sb)) (x_assign rfl) ?_
  refine wpList_nil (X_then (hK7_ _ _ ?_))
  clear hK7_
  refine C_seq (fun K24_ hK24_ => ?_)
  refine C_seq (fun K25_ hK25_ => C_reg ?_)
  refine sv (v := (vQ sb)) (x_move rfl) ?_
  refine sv (v := (vQ tb)) (x_move rfl) ?_
  refine sv (v := (vQ tb)) (by kernel_rfl) ?_
  refine sv (v := (vP (some ⟨tb, 2, none⟩))) (by kernel_rfl) ?_
  refine sv (v := (vQ sb)) (x_load1 rfl Try.underlying182 rfl ((Holds.rd H18_ 1 rfl) 2 (vQ sb) rfl)) ?_
  refine sv (v := (vB true)) (x_eqP rfl rfl Try.underlying182 z185) ?_
  refine wpList_nil (X_then (hK25_ _ _ ?_))
  clear hK25_
  refine C_condT rfl ?_
  refine C_seq (fun K26_ hK26_ => C_reg ?_)
  refine sv (v := (vP none)) (x_assign rfl) ?_
  refine wpList_nil (X_then (hK26_ _ _ ?_))
  clear hK26_
  refine C_ret (X_thenR ?_)
  refine R_any (v := (vP none)) (run_results1 rfl rfl) ?_
  have H27_ : Holds w17_ (ro R :: cl tb 188 [(vQ (rt sb W)), (vI .i64 cnt), (vQ sb)] :: tr sb sb W :: clf sb 185 sc :: F) := (Holds.pkF H18_ [0, 0, 0, 0] 1 :)
  exact ⟨_, _, rfl, (.inl ⟨rfl, rfl, (by first | assumption | omega | exact rfl)⟩), S22_, H27_⟩
 ·skip
  have S23_ := Same.trans S6_ S19_
  refine sv (v := (vQ n11_.a)) (x_assign rfl) ?_
  refine wpList_nil (X_then (hK7_ _ _ ?_))
  clear hK7_
  refine C_seq (fun K28_ hK28_ => ?_)
  refine C_seq (fun K29_ hK29_ => C_reg ?_)
  refine sv (v := (vQ n11_.a)) (x_move rfl) ?_
  refine sv (v := (vQ tb)) (x_move rfl) ?_
  refine sv (v := (vQ tb)) (by kernel_rfl) ?_
  refine sv (v := (vP (some ⟨tb, 2, none⟩))) (by kernel_rfl) ?_
  refine sv (v := (vQ sb)) (x_load1 rfl Try.underlying182 rfl ((Holds.rd H18_ 1 rfl) 2 (vQ sb) rfl)) ?_
  have hpc30_ : n11_.a ≠ sb := Holds.ne_f H18_ 2 rfl 6 rfl (by decide)
  refine sv (v := (vB false)) (x_cast (x_eqPN rfl rfl Try.underlying182 z185 (by decide) (Holds.blk H18_ 2 rfl) (Holds.blk H18_ 6 rfl)) (congrArg vB (decide_eq_false hpc30_))) ?_
  refine wpList_nil (X_then (hK29_ _ _ ?_))
  clear hK29_
  refine C_condF rfl ?_
  refine C_skip (X_then (hK28_ _ _ ?_))
  clear hK28_
  refine C_seq (fun K31_ hK31_ => C_reg ?_)
  refine sv (v := (vQ n11_.a)) (x_move rfl) ?_
  refine sv (v := (vQ n11_.a)) (by kernel_rfl) ?_
  refine sv (v := (vQ n11_.a)) (by kernel_rfl) ?_
  refine sv (v := (vQ n11_.a)) (x_assign rfl) ?_
  refine wpList_nil (X_then (hK31_ _ _ ?_))
  clear hK31_
  refine C_ret ?_
  refine R_any (v := (vQ n11_.a)) (run_results1 rfl rfl) ?_
  have H32_ : Holds w17_ (ro R :: cl tb 188 [(vQ (rt sb W)), (vI .i64 cnt), (vQ sb)] :: clf n11_.a 185 [n11_.b, n11_.e, n11_.v, n11_.mx, (vQ (rt sb a12_)), (vQ (rt sb b13_)), (vQ (pa sb C10_)), (vI .i64 n11_.c)] :: tr sb n11_.a a12_ :: tr sb n11_.a b13_ :: cx sb n11_.a C10_ :: clf sb 185 sc :: F) := (Holds.pkF H18_ [0, 0, 0, 0, 0, 0, 0] 1 :)
  exact ⟨_, _, rfl, (.inr ⟨C10_, n11_, a12_, b13_, rfl, rfl, (by first | assumption | omega | exact rfl), (by first | assumption | omega | exact rfl)⟩), S23_, H32_⟩
end Go.Proofs.Ytlnihndjepjagaa
set_option linter.unusedVariables false
set_option linter.unusedSimpArgs false
namespace Go.Proofs.Ytlnihndjepjagaa
open Go Go.RowKit Gw
open Go.Value renaming int → vI, bool → vB, slice → vS, pointer → vP, agg → vA, tuple → vT

/-! ### A tree of intervals of an order, as a list -/
structure IE where
  lo : EK
  hi : EK
  val : Int
def ahK (ord : Int) (z x : IE) : Bool := decide (ecm ord z.lo x.lo < 0) || (decide (ecm ord z.lo x.lo = 0) && decide (ecm ord z.hi x.hi < 0))
/-- Behind all that it does not go ahead of. -/
def insK (ord : Int) (z : IE) : List IE → List IE
  | [] => [z]
  | x :: M => if ahK ord z x = true then z :: x :: M else x :: insK ord z M
theorem insK_split {ord : Int} {z : IE} : ∀ {M1 M2 : List IE}, (∀ x ∈ M1, ahK ord z x = false) → (∀ y ∈ M2, ahK ord z y = true) → insK ord z (M1 ++ M2) = M1 ++ z :: M2
  | [], [], _, _ => rfl
  | [], y :: M2, _, h => by
    rw [List.nil_append, insK, if_pos (h y (by simp))]; rfl
  | x :: M1, M2, h1, h2 => by
    rw [List.cons_append, insK, if_neg (by rw [h1 x (by simp)]; decide), insK_split (fun y hy => h1 y (by simp [hy])) h2]; rfl
def nk3 (n : ND EK) : EK × EK × Value := (n.kb, n.ke, n.v)
def iek (e : IE) : EK × EK × Value := (e.lo, e.hi, .iface 3 (.int .i64 e.val))
structure TS (ord : Int) (R : HP) (W : Tr EK) (M : List IE) : Prop where
  ok : TOk (EO ord) R W ∧ LocT (EO ord) W ∧ blackT W
  s : srt (EO ord) (ino W)
  m : (ino W).map nk3 = M.map iek
theorem TS.mono {ord : Int} {R R' : HP} (s : Sub R R') {W : Tr EK} {M : List IE} (h : TS ord R W M) : TS ord R' W M := ⟨⟨h.ok.1.mono s, h.ok.2⟩, h.s, h.m⟩
theorem TS.nil {ord : Int} {R : HP} : TS ord R (Tr.lf : Tr EK) [] := ⟨⟨trivial, trivial, trivial⟩, List.Pairwise.nil, rfl⟩
theorem bef_ahK {ord : Int} {kb ke : EK} {v : Int} {x : ND EK} {e : IE} (h : nk3 x = iek e) : bef (EO ord) kb ke x ↔ ahK ord ⟨kb, ke, v⟩ e = true := by
  have h1 : x.kb = e.lo := congrArg Prod.fst h
  have h2 : x.ke = e.hi := congrArg (fun p => p.2.1) h
  unfold bef ahK
  rw [h1, h2, Bool.or_eq_true, Bool.and_eq_true, decide_eq_true_eq, decide_eq_true_eq, decide_eq_true_eq]
  exact Iff.rfl
theorem map_mem {α β γ : Type} {f : α → γ} {g : β → γ} : ∀ {L : List α} {M : List β}, L.map f = M.map g → ∀ y ∈ M, ∃ x ∈ L, f x = g y
  | L, M, h, y, hy => by
    have : g y ∈ L.map f := by rw [h]; exact List.mem_map.2 ⟨y, hy, rfl⟩
    obtain ⟨x, hx, e⟩ := List.mem_map.1 this
    exact ⟨x, hx, e⟩
theorem TS.ins {ord : Int} {R : HP} {W W' : Tr EK} {M : List IE} {L1 L2 : List (ND EK)} {z : ND EK} {b e : Value} {kb ke : EK} {v : Int} (h : TS ord R W M) (h1 : TOk (EO ord) R W' ∧ LocT (EO ord) W' ∧ blackT W') (h2 : ino W' = L1 ++ z.er :: L2) (h3 : ino W = L1 ++ L2)
    (h4 : z.b = b ∧ z.e = e ∧ z.v = .iface 3 (.int .i64 v) ∧ z.kb = kb ∧ z.ke = ke) (h5 : srt (EO ord) (ino W')) (h6 : ∀ x ∈ L1, ¬ bef (EO ord) kb ke x) (h7 : ∀ y ∈ L2, bef (EO ord) kb ke y) : TS ord R W' (insK ord ⟨kb, ke, v⟩ M) := by
  refine ⟨h1, h5, ?_⟩
  have hm := h.m
  rw [h3, List.map_append] at hm
  obtain ⟨M1, M2, rfl, e1, e2⟩ := List.map_eq_append_iff.1 hm.symm
  rw [insK_split (z := ⟨kb, ke, v⟩) (fun x hx => ?_) (fun y hy => ?_), h2, List.map_append, List.map_cons, List.map_append, List.map_cons, e1, e2]
  · obtain ⟨-, -, h4, rfl, rfl⟩ := h4
    have : nk3 z.er = iek ⟨z.kb, z.ke, v⟩ := by
      show (z.kb, z.ke, z.v) = _
      rw [h4]; rfl
    rw [this]
  · obtain ⟨n, hn, he⟩ := map_mem e1.symm x hx
    have := h6 n hn
    rw [bef_ahK (v := v) he] at this
    simpa using this
  · obtain ⟨n, hn, he⟩ := map_mem e2.symm y hy
    exact (bef_ahK he).1 (h7 n hn)
theorem TS.len {ord : Int} {R : HP} {W : Tr EK} {M : List IE} (h : TS ord R W M) : (ino W).length = M.length := by
  have := congrArg List.length h.m
  simpa using this
theorem TS.miss {ord : Int} {R : HP} {W : Tr EK} {M : List IE} {kb ke : EK} (h : TS ord R W M) (hn : ∀ x ∈ ino W, nk kb ke x) : ∀ e ∈ M, ¬ (e.lo = kb ∧ e.hi = ke) := by
  intro e he hk
  obtain ⟨n, hn1, h1⟩ := map_mem h.m e he
  exact hn n hn1 ⟨(congrArg Prod.fst h1).trans hk.1, (congrArg (fun p => p.2.1) h1).trans hk.2⟩
theorem TS.hit {ord : Int} {R : HP} {C : List (Fr EK)} {n : ND EK} {a b : Tr EK} {M : List IE} (h : TS ord R (plug C (.nd n a b)) M) : ∃ e ∈ M, e.lo = n.kb ∧ e.hi = n.ke ∧ n.v = .iface 3 (.int .i64 e.val) := by
  have hm : n.er ∈ ino (plug C (.nd n a b)) := by rw [ino_plug]; simp [ino]
  have : nk3 n.er ∈ M.map iek := by rw [← h.m]; exact List.mem_map.2 ⟨_, hm, rfl⟩
  obtain ⟨e, he, h1⟩ := List.mem_map.1 this
  exact ⟨e, he, congrArg Prod.fst h1, congrArg (fun p => p.2.1) h1, (congrArg (fun p => p.2.2) h1).symm⟩
def vOf (n : ND EK) : Int := match n.v with | .iface _ (.int _ v) => v | _ => 0
def eOf (n : ND EK) : IE := ⟨n.kb, n.ke, vOf n⟩
theorem eOf_of {n : ND EK} {e : IE} (h : nk3 n = iek e) : eOf n = e := by
  have h1 : n.kb = e.lo := congrArg Prod.fst h
  have h2 : n.ke = e.hi := congrArg (fun p => p.2.1) h
  have h3 : n.v = .iface 3 (.int .i64 e.val) := congrArg (fun p => p.2.2) h
  unfold eOf vOf
  rw [h1, h2, h3]
/-- Those that an interval meets. -/
def meetK (ord : Int) (b e : EK) (x : IE) : Bool := decide (ecm ord x.lo e < 0) && decide (ecm ord b x.hi < 0)
theorem meets_filter {ord : Int} {b e : EK} : ∀ {L : List (ND EK)} {M : List IE}, L.map nk3 = M.map iek → (L.filter (meets (EO ord) b e)).map eOf = M.filter (meetK ord b e)
  | [], [], _ => rfl
  | [], _ :: _, h => by cases h
  | _ :: _, [], h => by cases h
  | n :: L, x :: M, h => by
    rw [List.map_cons, List.map_cons] at h
    have h1 := (List.cons.inj h).1
    have ih := meets_filter (ord := ord) (b := b) (e := e) (List.cons.inj h).2
    have k1 : n.kb = x.lo := congrArg Prod.fst h1
    have k2 : n.ke = x.hi := congrArg (fun p => p.2.1) h1
    have hm : meets (EO ord) b e n = meetK ord b e x := by
      unfold meets meetK
      rw [k1, k2]
      show decide (ecm ord x.lo e < 0 ∧ ecm ord b x.hi < 0) = _
      rw [Bool.decide_and]
    rw [List.filter_cons, List.filter_cons, hm]
    split
    · rw [List.map_cons, eOf_of h1, ih]
    · exact ih
/-- Each begins ahead of its end. -/
def PrpK (ord : Int) (M : List IE) : Prop := ∀ e ∈ M, ecm ord e.lo e.hi < 0
theorem TS.prp {ord : Int} {R : HP} {W : Tr EK} {M : List IE} (h : TS ord R W M) (hp : PrpK ord M) : Prp (EO ord) (ino W) := fun n hn => by
  have : nk3 n ∈ M.map iek := by rw [← h.m]; exact List.mem_map.2 ⟨_, hn, rfl⟩
  obtain ⟨e, he, h1⟩ := List.mem_map.1 this
  have k1 : e.lo = n.kb := congrArg Prod.fst h1
  have k2 : e.hi = n.ke := congrArg (fun p => p.2.1) h1
  have := hp e he
  rw [k1, k2] at this
  exact this
/-! ### States that are told up to something -/
end Go.Proofs.Ytlnihndjepjagaa
set_option linter.unusedVariables false
set_option linter.unusedSimpArgs false
namespace Go.Proofs.Ytlnihndjepjagaa
open Go Go.RowKit Gw
open Go.Value renaming int → vI, bool → vB, slice → vS, pointer → vP, agg → vA, tuple → vT

set_option maxHeartbeats 8000000 in
theorem tdNote (R : HP) (ord : Int) (t7 : Nat) (n : ND EK) (l r p : Nat) (okb : Bool) (i1 i2 val : Int) (lv vv : Value) (L : List SN) (V : List Int) (hn : NOk (EO ord) R n) (hll : L.length ≤ 100000000000 ∧ V.length ≤ 100000000000) :
    Tri Try.prog 86 #[(vQ n.a), (vQ t7)] R [clf n.a 185 [n.b, n.e, (Value.iface 3 (vI .i64 val)), n.mx, (vQ l), (vQ r), (vQ p), (vI .i64 n.c)], cl t7 59 [(vB okb), (vI .i64 i1), (vI .i64 i2), lv, vv], sl 44 5 lv (List.length L) (L.flatMap SN.cells), sl 3 1 vv (List.length V) (V.map (vI .i64))] (fun v__ post__ => ∃ (lv2 vv2 : Value), v__ = (vT #[]) ∧ post__ = [clf n.a 185 [n.b, n.e, (Value.iface 3 (vI .i64 val)), n.mx, (vQ l), (vQ r), (vQ p), (vI .i64 n.c)], cl t7 59 [(vB okb), (vI .i64 i1), (vI .i64 i2), lv2, vv2], sl 44 5 lv2 (List.length (L ++ [ekSpan n.kb n.ke])) ((L ++ [ekSpan n.kb n.ke]).flatMap SN.cells), sl 3 1 vv2 (List.length (V ++ [val])) ((V ++ [val]).map (vI .i64))]) := by
 refine Tri.into (n := 23) (al := [(vQ n.a), (vQ t7)]) Try.func86 rfl Try.ntmps86 rfl rfl fun w F H => ?_
 refine C_seq (fun K1_ hK1_ => ?_)
 refine A_start (S := fun w => (Rd n.a [n.b, n.e, (Value.iface 3 (vI .i64 val)), n.mx, (vQ l), (vQ r), (vQ p), (vI .i64 n.c)] w ∧ Blk w n.a) ∧ SlRd vv (V.map (vI .i64)) w ∧ Sub R (hp w)) (N := 11) foll rfl rfl ?_
 have H2_ := Holds.drew_ H
 have hq3_ := And.intro ((And.intro (Holds.rdf H2_ 1 rfl) (Holds.blk H2_ 1 rfl))) (And.intro (Holds.slrd H2_ 4 rfl) ((Holds.ro_at H2_ 0 rfl)))
 refine A_tk 0 (v := (vP (some ⟨t7, 3, none⟩))) rfl (by kernel_rfl) (fun w hS => by kernel_rfl) hq3_ ?_
 refine A_tk 2 (v := (vQ n.a)) rfl (by kernel_rfl) (fun w hS => x_move rfl) hq3_ ?_
 refine A_tk 3 (v := (vQ n.a)) rfl (by kernel_rfl) (fun w hS => by kernel_rfl) hq3_ ?_
 refine A_tk 4 (v := (vQ n.a)) rfl (by kernel_rfl) (fun w hS => by kernel_rfl) hq3_ ?_
 refine A_tk 5 (v := (vA #[n.b, n.e])) rfl (by kernel_rfl) (fun w hS => x_loadN (vs := [n.b, n.e]) rfl Try.underlying111 rfl z111 rfl (Rd.cells hS.1.1 0 rfl)) hq3_ ?_
 refine A_ready (i := 1) (rs := [6]) (by kernel_rfl) ?_
 refine AllR.cons ?_ ?_
 ·skip
  refine A_op (ls' := #[true, true, true, true, true, true, false, false, false, false, false]) rfl (by kernel_rfl) (T_val (v := lv) (x_load1 rfl Try.underlying30 rfl ((Holds.rd H2_ 2 rfl) 3 lv rfl)) ?_)
  refine ⟨⟨(And.intro (Holds.rdf H2_ 1 rfl) (Holds.blk H2_ 1 rfl)), Holds.slrd H2_ 4 rfl, (Holds.ro_at H2_ 0 rfl)⟩, ?_⟩
  refine A_ready (i := 6) (rs := []) (by kernel_rfl) ?_
  refine AllR.cons ?_ AllR.nil
  refine A_op (ls' := #[true, true, true, true, true, true, true, false, false, false, false]) rfl (by kernel_rfl) (T_call (al := [(vA #[n.b, n.e])]) (pre := []) rfl rfl cb54 (spOut R ord n.b n.e n.kb n.ke (hn.b) (hn.e)) H2_ ?_)
  rintro v4_ p8_ w5_ ⟨rfl, rfl⟩ S7_ H6_
  have S9_ := Same.trans (Same.trans (Same.refl w) (Same.drew _)) S7_
  refine ⟨⟨(And.intro (Holds.rdf H6_ 1 rfl) (Holds.blk H6_ 1 rfl)), Holds.slrd H6_ 4 rfl, (Holds.ro_at H6_ 0 rfl)⟩, ?_⟩
  refine A_ready (i := 7) (rs := []) (by kernel_rfl) ?_
  refine AllR.cons ?_ AllR.nil
  refine A_op (ls' := #[true, true, true, true, true, true, true, true, false, false, false]) rfl (by kernel_rfl) (T_new (obj := .cells #[(Value.string ((ekSpan n.kb n.ke).in__Begin)), (Value.string ((ekSpan n.kb n.ke).in__End)), (vB ((ekSpan n.kb n.ke).in__Point)), (vI .i64 ((ekSpan n.kb n.ke).from_)), (vI .i64 ((ekSpan n.kb n.ke).till))] 44) (f := fun b__ => .slice (some ⟨b__, 0, none⟩) 1 1) (A := fun b__ => cl b__ 44 [(Value.string ((ekSpan n.kb n.ke).in__Begin)), (Value.string ((ekSpan n.kb n.ke).in__End)), (vB ((ekSpan n.kb n.ke).in__Point)), (vI .i64 ((ekSpan n.kb n.ke).from_)), (vI .i64 ((ekSpan n.kb n.ke).till))]) (by kernel_rfl) (fun l h => h.alloc _ _) H6_ ?_)
  intro b10_ w11_ S13_ H12_
  have S14_ := Same.trans S9_ S13_
  refine ⟨⟨(And.intro (Holds.rdf H12_ 2 rfl) (Holds.blk H12_ 2 rfl)), Holds.slrd H12_ 5 rfl, (Holds.ro_at H12_ 1 rfl)⟩, ?_⟩
  refine A_ready (i := 8) (rs := []) (by kernel_rfl) ?_
  refine AllR.cons ?_ AllR.nil
  refine A_op (ls' := #[true, true, true, true, true, true, true, true, true, false, false]) rfl (by kernel_rfl) (T_append rfl rfl Try.underlying30 z44 rfl (by decide) H12_ 4 rfl (Holds.cl_src H12_ 0 rfl Try.underlying30 (by simp [Value.oneCell']) rfl) (by first | omega | (simp only [List.length_append, List.length_cons, List.length_nil]; omega)) ?_)
  intro v15_ w16_ S18_ H17_
  have S19_ := Same.trans S14_ S18_
  refine ⟨⟨(And.intro (Holds.rdf H17_ 2 rfl) (Holds.blk H17_ 2 rfl)), Holds.slrd H17_ 5 rfl, (Holds.ro_at H17_ 1 rfl)⟩, ?_⟩
  have hq20_ := And.intro ((And.intro (Holds.rdf H17_ 2 rfl) (Holds.blk H17_ 2 rfl))) (And.intro (Holds.slrd H17_ 5 rfl) ((Holds.ro_at H17_ 1 rfl)))
  refine A_tk 9 (v := (vP (some ⟨t7, 3, none⟩))) rfl (by kernel_rfl) (fun w hS => by kernel_rfl) hq20_ ?_
  refine A_ready (i := 10) (rs := []) (by kernel_rfl) ?_
  refine AllR.cons ?_ AllR.nil
  refine A_op0 (ls' := #[true, true, true, true, true, true, true, true, true, true, true]) rfl (by kernel_rfl) (T_store1 (v := v15_) rfl rfl z30 (Holds.sl_one H17_ 4 rfl) H17_ 3 rfl (Nat.le_of_ble_eq_true (by rfl)) ?_)
  intro w21_ S23_ H22_
  have S24_ := Same.trans S19_ S23_
  refine ⟨⟨(And.intro (Holds.rdf H22_ 2 rfl) (Holds.blk H22_ 2 rfl)), Holds.slrd H22_ 5 rfl, (Holds.ro_at H22_ 1 rfl)⟩, ?_⟩
  refine A_done (by kernel_rfl) ?_
  refine (X_then (hK1_ _ _ ?_))
  clear hK1_
  refine A_start (S := fun w => (Rd n.a [n.b, n.e, (Value.iface 3 (vI .i64 val)), n.mx, (vQ l), (vQ r), (vQ p), (vI .i64 n.c)] w ∧ Blk w n.a) ∧ SlRd v15_ ((L.flatMap SN.cells) ++ [(Value.string ((ekSpan n.kb n.ke).in__Begin)), (Value.string ((ekSpan n.kb n.ke).in__End)), (vB ((ekSpan n.kb n.ke).in__Point)), (vI .i64 ((ekSpan n.kb n.ke).from_)), (vI .i64 ((ekSpan n.kb n.ke).till))]) w ∧ Sub R (hp w)) (N := 11) foll rfl rfl ?_
  have H25_ := Holds.drew_ H22_
  have hq26_ := And.intro ((And.intro (Holds.rdf H25_ 2 rfl) (Holds.blk H25_ 2 rfl))) (And.intro (Holds.slrd H25_ 4 rfl) ((Holds.ro_at H25_ 1 rfl)))
  refine A_tk 0 (v := (vP (some ⟨t7, 4, none⟩))) rfl (by kernel_rfl) (fun w hS => by kernel_rfl) hq26_ ?_
  refine A_tk 2 (v := (vQ n.a)) rfl (by kernel_rfl) (fun w hS => x_move rfl) hq26_ ?_
  refine A_tk 3 (v := (vQ n.a)) rfl (by kernel_rfl) (fun w hS => by kernel_rfl) hq26_ ?_
  refine A_tk 4 (v := (vP (some ⟨n.a, 2, none⟩))) rfl (by kernel_rfl) (fun w hS => by kernel_rfl) hq26_ ?_
  refine A_tk 5 (v := (Value.iface 3 (vI .i64 val))) rfl (by kernel_rfl) (fun w hS => x_load1 rfl Try.underlying20 rfl (hS.1.1 2 (Value.iface 3 (vI .i64 val)) rfl)) hq26_ ?_
  refine A_tk 6 (v := (vI .i64 val)) rfl (by kernel_rfl) (fun w hS => by kernel_rfl) hq26_ ?_
  refine A_ready (i := 1) (rs := [7]) (by kernel_rfl) ?_
  refine AllR.cons ?_ ?_
  ·skip
   refine A_op (ls' := #[true, true, true, true, true, true, true, false, false, false, false]) rfl (by kernel_rfl) (T_val (v := vv) (x_load1 rfl Try.underlying35 rfl ((Holds.rd H25_ 3 rfl) 4 vv rfl)) ?_)
   refine ⟨⟨(And.intro (Holds.rdf H25_ 2 rfl) (Holds.blk H25_ 2 rfl)), Holds.slrd H25_ 4 rfl, (Holds.ro_at H25_ 1 rfl)⟩, ?_⟩
   refine A_ready (i := 7) (rs := []) (by kernel_rfl) ?_
   refine AllR.cons ?_ AllR.nil
   refine A_op (ls' := #[true, true, true, true, true, true, true, true, false, false, false]) rfl (by kernel_rfl) (T_new (obj := .cells #[(vI .i64 val)] 3) (f := fun b__ => .slice (some ⟨b__, 0, none⟩) 1 1) (A := fun b__ => cl b__ 3 [(vI .i64 val)]) (by kernel_rfl) (fun l h => h.alloc _ _) H25_ ?_)
   intro b27_ w28_ S30_ H29_
   have S31_ := Same.trans (Same.trans S24_ (Same.drew _)) S30_
   refine ⟨⟨(And.intro (Holds.rdf H29_ 3 rfl) (Holds.blk H29_ 3 rfl)), Holds.slrd H29_ 5 rfl, (Holds.ro_at H29_ 2 rfl)⟩, ?_⟩
   refine A_ready (i := 8) (rs := []) (by kernel_rfl) ?_
   refine AllR.cons ?_ AllR.nil
   refine A_op (ls' := #[true, true, true, true, true, true, true, true, true, false, false]) rfl (by kernel_rfl) (T_append rfl rfl Try.underlying35 z3 rfl (by decide) H29_ 6 rfl (Holds.cl_src H29_ 0 rfl Try.underlying35 (by simp [Value.oneCell']) rfl) (by first | omega | (simp only [List.length_append, List.length_cons, List.length_nil]; omega)) ?_)
   intro v32_ w33_ S35_ H34_
   have S36_ := Same.trans S31_ S35_
   refine ⟨⟨(And.intro (Holds.rdf H34_ 3 rfl) (Holds.blk H34_ 3 rfl)), Holds.slrd H34_ 5 rfl, (Holds.ro_at H34_ 2 rfl)⟩, ?_⟩
   have hq37_ := And.intro ((And.intro (Holds.rdf H34_ 3 rfl) (Holds.blk H34_ 3 rfl))) (And.intro (Holds.slrd H34_ 5 rfl) ((Holds.ro_at H34_ 2 rfl)))
   refine A_tk 9 (v := (vP (some ⟨t7, 4, none⟩))) rfl (by kernel_rfl) (fun w hS => by kernel_rfl) hq37_ ?_
   refine A_ready (i := 10) (rs := []) (by kernel_rfl) ?_
   refine AllR.cons ?_ AllR.nil
   refine A_op0 (ls' := #[true, true, true, true, true, true, true, true, true, true, true]) rfl (by kernel_rfl) (T_store1 (v := v32_) rfl rfl z35 (Holds.sl_one H34_ 6 rfl) H34_ 4 rfl (Nat.le_of_ble_eq_true (by rfl)) ?_)
   intro w38_ S40_ H39_
   have S41_ := Same.trans S36_ S40_
   refine ⟨⟨(And.intro (Holds.rdf H39_ 3 rfl) (Holds.blk H39_ 3 rfl)), Holds.slrd H39_ 5 rfl, (Holds.ro_at H39_ 2 rfl)⟩, ?_⟩
   refine A_done (by kernel_rfl) ?_
   refine R_0 rfl ?_
   have H42_ := Holds.resl H39_ 5 rfl (by simp [SN.cells, List.flatMap_append] : (L.flatMap SN.cells) ++ [(Value.string ((ekSpan n.kb n.ke).in__Begin)), (Value.string ((ekSpan n.kb n.ke).in__End)), (vB ((ekSpan n.kb n.ke).in__Point)), (vI .i64 ((ekSpan n.kb n.ke).from_)), (vI .i64 ((ekSpan n.kb n.ke).till))] = (L ++ [ekSpan n.kb n.ke]).flatMap SN.cells) (by simp : (List.length L) + 1 = (List.length (L ++ [ekSpan n.kb n.ke])))
   have H43_ := Holds.resl H42_ 6 rfl (by simp : (V.map (vI .i64)) ++ [(vI .i64 val)] = (V ++ [val]).map (vI .i64)) (by simp : (List.length V) + 1 = (List.length (V ++ [val])))
   have H44_ : Holds w38_ (ro R :: clf n.a 185 [n.b, n.e, (Value.iface 3 (vI .i64 val)), n.mx, (vQ l), (vQ r), (vQ p), (vI .i64 n.c)] :: cl t7 59 [(vB okb), (vI .i64 i1), (vI .i64 i2), v15_, v32_] :: sl 44 5 v15_ (List.length (L ++ [ekSpan n.kb n.ke])) ((L ++ [ekSpan n.kb n.ke]).flatMap SN.cells) :: sl 3 1 v32_ (List.length (V ++ [val])) ((V ++ [val]).map (vI .i64)) :: F) := (Holds.pkF H43_ [2, 2, 2, 2, 2] 2 :)
   exact ⟨_, _, rfl, ⟨v15_, v32_, rfl, rfl⟩, S41_, H44_⟩
  refine AllR.cons ?_ AllR.nil
  refine A_op (ls' := #[true, false, true, true, true, true, true, true, false, false, false]) rfl (by kernel_rfl) (T_new (obj := .cells #[(vI .i64 val)] 3) (f := fun b__ => .slice (some ⟨b__, 0, none⟩) 1 1) (A := fun b__ => cl b__ 3 [(vI .i64 val)]) (by kernel_rfl) (fun l h => h.alloc _ _) H25_ ?_)
  intro b45_ w46_ S48_ H47_
  have S49_ := Same.trans (Same.trans S24_ (Same.drew _)) S48_
  refine ⟨⟨(And.intro (Holds.rdf H47_ 3 rfl) (Holds.blk H47_ 3 rfl)), Holds.slrd H47_ 5 rfl, (Holds.ro_at H47_ 2 rfl)⟩, ?_⟩
  refine A_ready (i := 1) (rs := []) (by kernel_rfl) ?_
  refine AllR.cons ?_ AllR.nil
  refine A_op (ls' := #[true, true, true, true, true, true, true, true, false, false, false]) rfl (by kernel_rfl) (T_val (v := vv) (x_load1 rfl Try.underlying35 rfl ((Holds.rd H47_ 4 rfl) 4 vv rfl)) ?_)
  refine ⟨⟨(And.intro (Holds.rdf H47_ 3 rfl) (Holds.blk H47_ 3 rfl)), Holds.slrd H47_ 5 rfl, (Holds.ro_at H47_ 2 rfl)⟩, ?_⟩
  refine A_ready (i := 8) (rs := []) (by kernel_rfl) ?_
  refine AllR.cons ?_ AllR.nil
  refine A_op (ls' := #[true, true, true, true, true, true, true, true, true, false, false]) rfl (by kernel_rfl) (T_append rfl rfl Try.underlying35 z3 rfl (by decide) H47_ 6 rfl (Holds.cl_src H47_ 0 rfl Try.underlying35 (by simp [Value.oneCell']) rfl) (by first | omega | (simp only [List.length_append, List.length_cons, List.length_nil]; omega)) ?_)
  intro v50_ w51_ S53_ H52_
  have S54_ := Same.trans S49_ S53_
  refine ⟨⟨(And.intro (Holds.rdf H52_ 3 rfl) (Holds.blk H52_ 3 rfl)), Holds.slrd H52_ 5 rfl, (Holds.ro_at H52_ 2 rfl)⟩, ?_⟩
  have hq55_ := And.intro ((And.intro (Holds.rdf H52_ 3 rfl) (Holds.blk H52_ 3 rfl))) (And.intro (Holds.slrd H52_ 5 rfl) ((Holds.ro_at H52_ 2 rfl)))
  refine A_tk 9 (v := (vP (some ⟨t7, 4, none⟩))) rfl (by kernel_rfl) (fun w hS => by kernel_rfl) hq55_ ?_
  refine A_ready (i := 10) (rs := []) (by kernel_rfl) ?_
  refine AllR.cons ?_ AllR.nil
  refine A_op0 (ls' := #[true, true, true, true, true, true, true, true, true, true, true]) rfl (by kernel_rfl) (T_store1 (v := v50_) rfl rfl z35 (Holds.sl_one H52_ 6 rfl) H52_ 4 rfl (Nat.le_of_ble_eq_true (by rfl)) ?_)
  intro w56_ S58_ H57_
  have S59_ := Same.trans S54_ S58_
  refine ⟨⟨(And.intro (Holds.rdf H57_ 3 rfl) (Holds.blk H57_ 3 rfl)), Holds.slrd H57_ 5 rfl, (Holds.ro_at H57_ 2 rfl)⟩, ?_⟩
  refine A_done (by kernel_rfl) ?_
  refine R_0 rfl ?_
  have H60_ := Holds.resl H57_ 5 rfl (by simp [SN.cells, List.flatMap_append] : (L.flatMap SN.cells) ++ [(Value.string ((ekSpan n.kb n.ke).in__Begin)), (Value.string ((ekSpan n.kb n.ke).in__End)), (vB ((ekSpan n.kb n.ke).in__Point)), (vI .i64 ((ekSpan n.kb n.ke).from_)), (vI .i64 ((ekSpan n.kb n.ke).till))] = (L ++ [ekSpan n.kb n.ke]).flatMap SN.cells) (by simp : (List.length L) + 1 = (List.length (L ++ [ekSpan n.kb n.ke])))
  have H61_ := Holds.resl H60_ 6 rfl (by simp : (V.map (vI .i64)) ++ [(vI .i64 val)] = (V ++ [val]).map (vI .i64)) (by simp : (List.length V) + 1 = (List.length (V ++ [val])))
  have H62_ : Holds w56_ (ro R :: clf n.a 185 [n.b, n.e, (Value.iface 3 (vI .i64 val)), n.mx, (vQ l), (vQ r), (vQ p), (vI .i64 n.c)] :: cl t7 59 [(vB okb), (vI .i64 i1), (vI .i64 i2), v15_, v50_] :: sl 44 5 v15_ (List.length (L ++ [ekSpan n.kb n.ke])) ((L ++ [ekSpan n.kb n.ke]).flatMap SN.cells) :: sl 3 1 v50_ (List.length (V ++ [val])) ((V ++ [val]).map (vI .i64)) :: F) := (Holds.pkF H61_ [2, 2, 2, 2, 2] 2 :)
  exact ⟨_, _, rfl, ⟨v15_, v50_, rfl, rfl⟩, S59_, H62_⟩
 refine AllR.cons ?_ AllR.nil
 refine A_op (ls' := #[true, false, true, true, true, true, true, false, false, false, false]) rfl (by kernel_rfl) (T_call (al := [(vA #[n.b, n.e])]) (pre := []) rfl rfl cb54 (spOut R ord n.b n.e n.kb n.ke (hn.b) (hn.e)) H2_ ?_)
 rintro v63_ p67_ w64_ ⟨rfl, rfl⟩ S66_ H65_
 have S68_ := Same.trans (Same.trans (Same.refl w) (Same.drew _)) S66_
 refine ⟨⟨(And.intro (Holds.rdf H65_ 1 rfl) (Holds.blk H65_ 1 rfl)), Holds.slrd H65_ 4 rfl, (Holds.ro_at H65_ 0 rfl)⟩, ?_⟩
 refine A_ready (i := 1) (rs := [7]) (by kernel_rfl) ?_
 refine AllR.cons ?_ ?_
 ·skip
  refine A_op (ls' := #[true, true, true, true, true, true, true, false, false, false, false]) rfl (by kernel_rfl) (T_val (v := lv) (x_load1 rfl Try.underlying30 rfl ((Holds.rd H65_ 2 rfl) 3 lv rfl)) ?_)
  refine ⟨⟨(And.intro (Holds.rdf H65_ 1 rfl) (Holds.blk H65_ 1 rfl)), Holds.slrd H65_ 4 rfl, (Holds.ro_at H65_ 0 rfl)⟩, ?_⟩
  refine A_ready (i := 7) (rs := []) (by kernel_rfl) ?_
  refine AllR.cons ?_ AllR.nil
  refine A_op (ls' := #[true, true, true, true, true, true, true, true, false, false, false]) rfl (by kernel_rfl) (T_new (obj := .cells #[(Value.string ((ekSpan n.kb n.ke).in__Begin)), (Value.string ((ekSpan n.kb n.ke).in__End)), (vB ((ekSpan n.kb n.ke).in__Point)), (vI .i64 ((ekSpan n.kb n.ke).from_)), (vI .i64 ((ekSpan n.kb n.ke).till))] 44) (f := fun b__ => .slice (some ⟨b__, 0, none⟩) 1 1) (A := fun b__ => cl b__ 44 [(Value.string ((ekSpan n.kb n.ke).in__Begin)), (Value.string ((ekSpan n.kb n.ke).in__End)), (vB ((ekSpan n.kb n.ke).in__Point)), (vI .i64 ((ekSpan n.kb n.ke).from_)), (vI .i64 ((ekSpan n.kb n.ke).till))]) (by kernel_rfl) (fun l h => h.alloc _ _) H65_ ?_)
  intro b69_ w70_ S72_ H71_
  have S73_ := Same.trans S68_ S72_
  refine ⟨⟨(And.intro (Holds.rdf H71_ 2 rfl) (Holds.blk H71_ 2 rfl)), Holds.slrd H71_ 5 rfl, (Holds.ro_at H71_ 1 rfl)⟩, ?_⟩
  refine A_ready (i := 8) (rs := []) (by kernel_rfl) ?_
  refine AllR.cons ?_ AllR.nil
  refine A_op (ls' := #[true, true, true, true, true, true, true, true, true, false, false]) rfl (by kernel_rfl) (T_append rfl rfl Try.underlying30 z44 rfl (by decide) H71_ 4 rfl (Holds.cl_src H71_ 0 rfl Try.underlying30 (by simp [Value.oneCell']) rfl) (by first | omega | (simp only [List.length_append, List.length_cons, List.length_nil]; omega)) ?_)
  intro v74_ w75_ S77_ H76_
  have S78_ := Same.trans S73_ S77_
  refine ⟨⟨(And.intro (Holds.rdf H76_ 2 rfl) (Holds.blk H76_ 2 rfl)), Holds.slrd H76_ 5 rfl, (Holds.ro_at H76_ 1 rfl)⟩, ?_⟩
  have hq79_ := And.intro ((And.intro (Holds.rdf H76_ 2 rfl) (Holds.blk H76_ 2 rfl))) (And.intro (Holds.slrd H76_ 5 rfl) ((Holds.ro_at H76_ 1 rfl)))
  refine A_tk 9 (v := (vP (some ⟨t7, 3, none⟩))) rfl (by kernel_rfl) (fun w hS => by kernel_rfl) hq79_ ?_
  refine A_ready (i := 10) (rs := []) (by kernel_rfl) ?_
  refine AllR.cons ?_ AllR.nil
  refine A_op0 (ls' := #[true, true, true, true, true, true, true, true, true, true, true]) rfl (by kernel_rfl) (T_store1 (v := v74_) rfl rfl z30 (Holds.sl_one H76_ 4 rfl) H76_ 3 rfl (Nat.le_of_ble_eq_true (by rfl)) ?_)
  intro w80_ S82_ H81_
  have S83_ := Same.trans S78_ S82_
  refine ⟨⟨(And.intro (Holds.rdf H81_ 2 rfl) (Holds.blk H81_ 2 rfl)), Holds.slrd H81_ 5 rfl, (Holds.ro_at H81_ 1 rfl)⟩, ?_⟩
  refine A_done (by kernel_rfl) ?_
  refine (X_then (hK1_ _ _ ?_))
  clear hK1_
  refine A_start (S := fun w => (Rd n.a [n.b, n.e, (Value.iface 3 (vI .i64 val)), n.mx, (vQ l), (vQ r), (vQ p), (vI .i64 n.c)] w ∧ Blk w n.a) ∧ SlRd v74_ ((L.flatMap SN.cells) ++ [(Value.string ((ekSpan n.kb n.ke).in__Begin)), (Value.string ((ekSpan n.kb n.ke).in__End)), (vB ((ekSpan n.kb n.ke).in__Point)), (vI .i64 ((ekSpan n.kb n.ke).from_)), (vI .i64 ((ekSpan n.kb n.ke).till))]) w ∧ Sub R (hp w)) (N := 11) foll rfl rfl ?_
  have H84_ := Holds.drew_ H81_
  have hq85_ := And.intro ((And.intro (Holds.rdf H84_ 2 rfl) (Holds.blk H84_ 2 rfl))) (And.intro (Holds.slrd H84_ 4 rfl) ((Holds.ro_at H84_ 1 rfl)))
  refine A_tk 0 (v := (vP (some ⟨t7, 4, none⟩))) rfl (by kernel_rfl) (fun w hS => by kernel_rfl) hq85_ ?_
  refine A_tk 2 (v := (vQ n.a)) rfl (by kernel_rfl) (fun w hS => x_move rfl) hq85_ ?_
  refine A_tk 3 (v := (vQ n.a)) rfl (by kernel_rfl) (fun w hS => by kernel_rfl) hq85_ ?_
  refine A_tk 4 (v := (vP (some ⟨n.a, 2, none⟩))) rfl (by kernel_rfl) (fun w hS => by kernel_rfl) hq85_ ?_
  refine A_tk 5 (v := (Value.iface 3 (vI .i64 val))) rfl (by kernel_rfl) (fun w hS => x_load1 rfl Try.underlying20 rfl (hS.1.1 2 (Value.iface 3 (vI .i64 val)) rfl)) hq85_ ?_
  refine A_tk 6 (v := (vI .i64 val)) rfl (by kernel_rfl) (fun w hS => by kernel_rfl) hq85_ ?_
  refine A_ready (i := 1) (rs := [7]) (by kernel_rfl) ?_
  refine AllR.cons ?_ ?_
  ·skip
   refine A_op (ls' := #[true, true, true, true, true, true, true, false, false, false, false]) rfl (by kernel_rfl) (T_val (v := vv) (x_load1 rfl Try.underlying35 rfl ((Holds.rd H84_ 3 rfl) 4 vv rfl)) ?_)
   refine ⟨⟨(And.intro (Holds.rdf H84_ 2 rfl) (Holds.blk H84_ 2 rfl)), Holds.slrd H84_ 4 rfl, (Holds.ro_at H84_ 1 rfl)⟩, ?_⟩
   refine A_ready (i := 7) (rs := []) (by kernel_rfl) ?_
   refine AllR.cons ?_ AllR.nil
   refine A_op (ls' := #[true, true, true, true, true, true, true, true, false, false, false]) rfl (by kernel_rfl) (T_new (obj := .cells #[(vI .i64 val)] 3) (f := fun b__ => .slice (some ⟨b__, 0, none⟩) 1 1) (A := fun b__ => cl b__ 3 [(vI .i64 val)]) (by kernel_rfl) (fun l h => h.alloc _ _) H84_ ?_)
   intro b86_ w87_ S89_ H88_
   have S90_ := Same.trans (Same.trans S83_ (Same.drew _)) S89_
   refine ⟨⟨(And.intro (Holds.rdf H88_ 3 rfl) (Holds.blk H88_ 3 rfl)), Holds.slrd H88_ 5 rfl, (Holds.ro_at H88_ 2 rfl)⟩, ?_⟩
   refine A_ready (i := 8) (rs := []) (by kernel_rfl) ?_
   refine AllR.cons ?_ AllR.nil
   refine A_op (ls' := #[true, true, true, true, true, true, true, true, true, false, false]) rfl (by kernel_rfl) (T_append rfl rfl Try.underlying35 z3 rfl (by decide) H88_ 6 rfl (Holds.cl_src H88_ 0 rfl Try.underlying35 (by simp [Value.oneCell']) rfl) (by first | omega | (simp only [List.length_append, List.length_cons, List.length_nil]; omega)) ?_)
   intro v91_ w92_ S94_ H93_
   have S95_ := Same.trans S90_ S94_
   refine ⟨⟨(And.intro (Holds.rdf H93_ 3 rfl) (Holds.blk H93_ 3 rfl)), Holds.slrd H93_ 5 rfl, (Holds.ro_at H93_ 2 rfl)⟩, ?_⟩
   have hq96_ := And.intro ((And.intro (Holds.rdf H93_ 3 rfl) (Holds.blk H93_ 3 rfl))) (And.intro (Holds.slrd H93_ 5 rfl) ((Holds.ro_at H93_ 2 rfl)))
   refine A_tk 9 (v := (vP (some ⟨t7, 4, none⟩))) rfl (by kernel_rfl) (fun w hS => by kernel_rfl) hq96_ ?_
   refine A_ready (i := 10) (rs := []) (by kernel_rfl) ?_
   refine AllR.cons ?_ AllR.nil
   refine A_op0 (ls' := #[true, true, true, true, true, true, true, true, true, true, true]) rfl (by kernel_rfl) (T_store1 (v := v91_) rfl rfl z35 (Holds.sl_one H93_ 6 rfl) H93_ 4 rfl (Nat.le_of_ble_eq_true (by rfl)) ?_)
   intro w97_ S99_ H98_
   have S100_ := Same.trans S95_ S99_
   refine ⟨⟨(And.intro (Holds.rdf H98_ 3 rfl) (Holds.blk H98_ 3 rfl)), Holds.slrd H98_ 5 rfl, (Holds.ro_at H98_ 2 rfl)⟩, ?_⟩
   refine A_done (by kernel_rfl) ?_
   refine R_0 rfl ?_
   have H101_ := Holds.resl H98_ 5 rfl (by simp [SN.cells, List.flatMap_append] : (L.flatMap SN.cells) ++ [(Value.string ((ekSpan n.kb n.ke).in__Begin)), (Value.string ((ekSpan n.kb n.ke).in__End)), (vB ((ekSpan n.kb n.ke).in__Point)), (vI .i64 ((ekSpan n.kb n.ke).from_)), (vI .i64 ((ekSpan n.kb n.ke).till))] = (L ++ [ekSpan n.kb n.ke]).flatMap SN.cells) (by simp : (List.length L) + 1 = (List.length (L ++ [ekSpan n.kb n.ke])))
   have H102_ := Holds.resl H101_ 6 rfl (by simp : (V.map (vI .i64)) ++ [(vI .i64 val)] = (V ++ [val]).map (vI .i64)) (by simp : (List.length V) + 1 = (List.length (V ++ [val])))
   have H103_ : Holds w97_ (ro R :: clf n.a 185 [n.b, n.e, (Value.iface 3 (vI .i64 val)), n.mx, (vQ l), (vQ r), (vQ p), (vI .i64 n.c)] :: cl t7 59 [(vB okb), (vI .i64 i1), (vI .i64 i2), v74_, v91_] :: sl 44 5 v74_ (List.length (L ++ [ekSpan n.kb n.ke])) ((L ++ [ekSpan n.kb n.ke]).flatMap SN.cells) :: sl 3 1 v91_ (List.length (V ++ [val])) ((V ++ [val]).map (vI .i64)) :: F) := (Holds.pkF H102_ [2, 2, 2, 2, 2] 2 :)
   exact ⟨_, _, rfl, ⟨v74_, v91_, rfl, rfl⟩, S100_, H103_⟩
  refine AllR.cons ?_ AllR.nil
  refine A_op (ls' := #[true, false, true, true, true, true, true, true, false, false, false]) rfl (by kernel_rfl) (T_new (obj := .cells #[(vI .i64 val)] 3) (f := fun b__ => .slice (some ⟨b__, 0, none⟩) 1 1) (A := fun b__ => cl b__ 3 [(vI .i64 val)]) (by kernel_rfl) (fun l h => h.alloc _ _) H84_ ?_)
  intro b104_ w105_ S107_ H106_
  have S108_ := Same.trans (Same.trans S83_ (Same.drew _)) S107_
  refine ⟨⟨(And.intro (Holds.rdf H106_ 3 rfl) (Holds.blk H106_ 3 rfl)), Holds.slrd H106_ 5 rfl, (Holds.ro_at H106_ 2 rfl)⟩, ?_⟩
  refine A_ready (i := 1) (rs := []) (by kernel_rfl) ?_
  refine AllR.cons ?_ AllR.nil
  refine A_op (ls' := #[true, true, true, true, true, true, true, true, false, false, false]) rfl (by kernel_rfl) (T_val (v := vv) (x_load1 rfl Try.underlying35 rfl ((Holds.rd H106_ 4 rfl) 4 vv rfl)) ?_)
  refine ⟨⟨(And.intro (Holds.rdf H106_ 3 rfl) (Holds.blk H106_ 3 rfl)), Holds.slrd H106_ 5 rfl, (Holds.ro_at H106_ 2 rfl)⟩, ?_⟩
  refine A_ready (i := 8) (rs := []) (by kernel_rfl) ?_
  refine AllR.cons ?_ AllR.nil
  refine A_op (ls' := #[true, true, true, true, true, true, true, true, true, false, false]) rfl (by kernel_rfl) (T_append rfl rfl Try.underlying35 z3 rfl (by decide) H106_ 6 rfl (Holds.cl_src H106_ 0 rfl Try.underlying35 (by simp [Value.oneCell']) rfl) (by first | omega | (simp only [List.length_append, List.length_cons, List.length_nil]; omega)) ?_)
  intro v109_ w110_ S112_ H111_
  have S113_ := Same.trans S108_ S112_
  refine ⟨⟨(And.intro (Holds.rdf H111_ 3 rfl) (Holds.blk H111_ 3 rfl)), Holds.slrd H111_ 5 rfl, (Holds.ro_at H111_ 2 rfl)⟩, ?_⟩
  have hq114_ := And.intro ((And.intro (Holds.rdf H111_ 3 rfl) (Holds.blk H111_ 3 rfl))) (And.intro (Holds.slrd H111_ 5 rfl) ((Holds.ro_at H111_ 2 rfl)))
  refine A_tk 9 (v := (vP (some ⟨t7, 4, none⟩))) rfl (by kernel_rfl) (fun w hS => by kernel_rfl) hq114_ ?_
  refine A_ready (i := 10) (rs := []) (by kernel_rfl) ?_
  refine AllR.cons ?_ AllR.nil
  refine A_op0 (ls' := #[true, true, true, true, true, true, true, true, true, true, true]) rfl (by kernel_rfl) (T_store1 (v := v109_) rfl rfl z35 (Holds.sl_one H111_ 6 rfl) H111_ 4 rfl (Nat.le_of_ble_eq_true (by rfl)) ?_)
  intro w115_ S117_ H116_
  have S118_ := Same.trans S113_ S117_
  refine ⟨⟨(And.intro (Holds.rdf H116_ 3 rfl) (Holds.blk H116_ 3 rfl)), Holds.slrd H116_ 5 rfl, (Holds.ro_at H116_ 2 rfl)⟩, ?_⟩
  refine A_done (by kernel_rfl) ?_
  refine R_0 rfl ?_
  have H119_ := Holds.resl H116_ 5 rfl (by simp [SN.cells, List.flatMap_append] : (L.flatMap SN.cells) ++ [(Value.string ((ekSpan n.kb n.ke).in__Begin)), (Value.string ((ekSpan n.kb n.ke).in__End)), (vB ((ekSpan n.kb n.ke).in__Point)), (vI .i64 ((ekSpan n.kb n.ke).from_)), (vI .i64 ((ekSpan n.kb n.ke).till))] = (L ++ [ekSpan n.kb n.ke]).flatMap SN.cells) (by simp : (List.length L) + 1 = (List.length (L ++ [ekSpan n.kb n.ke])))
  have H120_ := Holds.resl H119_ 6 rfl (by simp : (V.map (vI .i64)) ++ [(vI .i64 val)] = (V ++ [val]).map (vI .i64)) (by simp : (List.length V) + 1 = (List.length (V ++ [val])))
  have H121_ : Holds w115_ (ro R :: clf n.a 185 [n.b, n.e, (Value.iface 3 (vI .i64 val)), n.mx, (vQ l), (vQ r), (vQ p), (vI .i64 n.c)] :: cl t7 59 [(vB okb), (vI .i64 i1), (vI .i64 i2), v74_, v109_] :: sl 44 5 v74_ (List.length (L ++ [ekSpan n.kb n.ke])) ((L ++ [ekSpan n.kb n.ke]).flatMap SN.cells) :: sl 3 1 v109_ (List.length (V ++ [val])) ((V ++ [val]).map (vI .i64)) :: F) := (Holds.pkF H120_ [2, 2, 2, 2, 2] 2 :)
  exact ⟨_, _, rfl, ⟨v74_, v109_, rfl, rfl⟩, S118_, H121_⟩
 refine AllR.cons ?_ AllR.nil
 refine A_op (ls' := #[true, false, true, true, true, true, true, true, false, false, false]) rfl (by kernel_rfl) (T_new (obj := .cells #[(Value.string ((ekSpan n.kb n.ke).in__Begin)), (Value.string ((ekSpan n.kb n.ke).in__End)), (vB ((ekSpan n.kb n.ke).in__Point)), (vI .i64 ((ekSpan n.kb n.ke).from_)), (vI .i64 ((ekSpan n.kb n.ke).till))] 44) (f := fun b__ => .slice (some ⟨b__, 0, none⟩) 1 1) (A := fun b__ => cl b__ 44 [(Value.string ((ekSpan n.kb n.ke).in__Begin)), (Value.string ((ekSpan n.kb n.ke).in__End)), (vB ((ekSpan n.kb n.ke).in__Point)), (vI .i64 ((ekSpan n.kb n.ke).from_)), (vI .i64 ((ekSpan n.kb n.ke).till))]) (by kernel_rfl) (fun l h => h.alloc _ _) H65_ ?_)
 intro b122_ w123_ S125_ H124_
 have S126_ := Same.trans S68_ S125_
 refine ⟨⟨(And.intro (Holds.rdf H124_ 2 rfl) (Holds.blk H124_ 2 rfl)), Holds.slrd H124_ 5 rfl, (Holds.ro_at H124_ 1 rfl)⟩, ?_⟩
 refine A_ready (i := 1) (rs := []) (by kernel_rfl) ?_
 refine AllR.cons ?_ AllR.nil
 refine A_op (ls' := #[true, true, true, true, true, true, true, true, false, false, false]) rfl (by kernel_rfl) (T_val (v := lv) (x_load1 rfl Try.underlying30 rfl ((Holds.rd H124_ 3 rfl) 3 lv rfl)) ?_)
 refine ⟨⟨(And.intro (Holds.rdf H124_ 2 rfl) (Holds.blk H124_ 2 rfl)), Holds.slrd H124_ 5 rfl, (Holds.ro_at H124_ 1 rfl)⟩, ?_⟩
 refine A_ready (i := 8) (rs := []) (by kernel_rfl) ?_
 refine AllR.cons ?_ AllR.nil
 refine A_op (ls' := #[true, true, true, true, true, true, true, true, true, false, false]) rfl (by kernel_rfl) (T_append rfl rfl Try.underlying30 z44 rfl (by decide) H124_ 4 rfl (Holds.cl_src H124_ 0 rfl Try.underlying30 (by simp [Value.oneCell']) rfl) (by first | omega | (simp only [List.length_append, List.length_cons, List.length_nil]; omega)) ?_)
 intro v127_ w128_ S130_ H129_
 have S131_ := Same.trans S126_ S130_
 refine ⟨⟨(And.intro (Holds.rdf H129_ 2 rfl) (Holds.blk H129_ 2 rfl)), Holds.slrd H129_ 5 rfl, (Holds.ro_at H129_ 1 rfl)⟩, ?_⟩
 have hq132_ := And.intro ((And.intro (Holds.rdf H129_ 2 rfl) (Holds.blk H129_ 2 rfl))) (And.intro (Holds.slrd H129_ 5 rfl) ((Holds.ro_at H129_ 1 rfl)))
 refine A_tk 9 (v := (vP (some ⟨t7, 3, none⟩))) rfl (by kernel_rfl) (fun w hS => by kernel_rfl) hq132_ ?_
 refine A_ready (i := 10) (rs := []) (by kernel_rfl) ?_
 refine AllR.cons ?_ AllR.nil
 refine A_op0 (ls' := #[true, true, true, true, true, true, true, true, true, true, true]) rfl (by kernel_rfl) (T_store1 (v := v127_) rfl rfl z30 (Holds.sl_one H129_ 4 rfl) H129_ 3 rfl (Nat.le_of_ble_eq_true (by rfl)) ?_)
 intro w133_ S135_ H134_
 have S136_ := Same.trans S131_ S135_
 refine ⟨⟨(And.intro (Holds.rdf H134_ 2 rfl) (Holds.blk H134_ 2 rfl)), Holds.slrd H134_ 5 rfl, (Holds.ro_at H134_ 1 rfl)⟩, ?_⟩
 refine A_done (by kernel_rfl) ?_
 refine (X_then (hK1_ _ _ ?_))
 clear hK1_
 refine A_start (S := fun w => (Rd n.a [n.b, n.e, (Value.iface 3 (vI .i64 val)), n.mx, (vQ l), (vQ r), (vQ p), (vI .i64 n.c)] w ∧ Blk w n.a) ∧ SlRd v127_ ((L.flatMap SN.cells) ++ [(Value.string ((ekSpan n.kb n.ke).in__Begin)), (Value.string ((ekSpan n.kb n.ke).in__End)), (vB ((ekSpan n.kb n.ke).in__Point)), (vI .i64 ((ekSpan n.kb n.ke).from_)), (vI .i64 ((ekSpan n.kb n.ke).till))]) w ∧ Sub R (hp w)) (N := 11) foll rfl rfl ?_
 have H137_ := Holds.drew_ H134_
 have hq138_ := And.intro ((And.intro (Holds.rdf H137_ 2 rfl) (Holds.blk H137_ 2 rfl))) (And.intro (Holds.slrd H137_ 4 rfl) ((Holds.ro_at H137_ 1 rfl)))
 refine A_tk 0 (v := (vP (some ⟨t7, 4, none⟩))) rfl (by kernel_rfl) (fun w hS => by kernel_rfl) hq138_ ?_
 refine A_tk 2 (v := (vQ n.a)) rfl (by kernel_rfl) (fun w hS => x_move rfl) hq138_ ?_
 refine A_tk 3 (v := (vQ n.a)) rfl (by kernel_rfl) (fun w hS => by kernel_rfl) hq138_ ?_
 refine A_tk 4 (v := (vP (some ⟨n.a, 2, none⟩))) rfl (by kernel_rfl) (fun w hS => by kernel_rfl) hq138_ ?_
 refine A_tk 5 (v := (Value.iface 3 (vI .i64 val))) rfl (by kernel_rfl) (fun w hS => x_load1 rfl Try.underlying20 rfl (hS.1.1 2 (Value.iface 3 (vI .i64 val)) rfl)) hq138_ ?_
 refine A_tk 6 (v := (vI .i64 val)) rfl (by kernel_rfl) (fun w hS => by kernel_rfl) hq138_ ?_
 refine A_ready (i := 1) (rs := [7]) (by kernel_rfl) ?_
 refine AllR.cons ?_ ?_
 ·skip
  refine A_op (ls' := #[true, true, true, true, true, true, true, false, false, false, false]) rfl (by kernel_rfl) (T_val (v := vv) (x_load1 rfl Try.underlying35 rfl ((Holds.rd H137_ 3 rfl) 4 vv rfl)) ?_)
  refine ⟨⟨(And.intro (Holds.rdf H137_ 2 rfl) (Holds.blk H137_ 2 rfl)), Holds.slrd H137_ 4 rfl, (Holds.ro_at H137_ 1 rfl)⟩, ?_⟩
  refine A_ready (i := 7) (rs := []) (by kernel_rfl) ?_
  refine AllR.cons ?_ AllR.nil
  refine A_op (ls' := #[true, true, true, true, true, true, true, true, false, false, false]) rfl (by kernel_rfl) (T_new (obj := .cells #[(vI .i64 val)] 3) (f := fun b__ => .slice (some ⟨b__, 0, none⟩) 1 1) (A := fun b__ => cl b__ 3 [(vI .i64 val)]) (by kernel_rfl) (fun l h => h.alloc _ _) H137_ ?_)
  intro b139_ w140_ S142_ H141_
  have S143_ := Same.trans (Same.trans S136_ (Same.drew _)) S142_
  refine ⟨⟨(And.intro (Holds.rdf H141_ 3 rfl) (Holds.blk H141_ 3 rfl)), Holds.slrd H141_ 5 rfl, (Holds.ro_at H141_ 2 rfl)⟩, ?_⟩
  refine A_ready (i := 8) (rs := []) (by kernel_rfl) ?_
  refine AllR.cons ?_ AllR.nil
  refine A_op (ls' := #[true, true, true, true, true, true, true, true, true, false, false]) rfl (by kernel_rfl) (T_append rfl rfl Try.underlying35 z3 rfl (by decide) H141_ 6 rfl (Holds.cl_src H141_ 0 rfl Try.underlying35 (by simp [Value.oneCell']) rfl) (by first | omega | (simp only [List.length_append, List.length_cons, List.length_nil]; omega)) ?_)
  intro v144_ w145_ S147_ H146_
  have S148_ := Same.trans S143_ S147_
  refine ⟨⟨(And.intro (Holds.rdf H146_ 3 rfl) (Holds.blk H146_ 3 rfl)), Holds.slrd H146_ 5 rfl, (Holds.ro_at H146_ 2 rfl)⟩, ?_⟩
  have hq149_ := And.intro ((And.intro (Holds.rdf H146_ 3 rfl) (Holds.blk H146_ 3 rfl))) (And.intro (Holds.slrd H146_ 5 rfl) ((Holds.ro_at H146_ 2 rfl)))
  refine A_tk 9 (v := (vP (some ⟨t7, 4, none⟩))) rfl (by kernel_rfl) (fun w hS => by kernel_rfl) hq149_ ?_
  refine A_ready (i := 10) (rs := []) (by kernel_rfl) ?_
  refine AllR.cons ?_ AllR.nil
  refine A_op0 (ls' := #[true, true, true, true, true, true, true, true, true, true, true]) rfl (by kernel_rfl) (T_store1 (v := v144_) rfl rfl z35 (Holds.sl_one H146_ 6 rfl) H146_ 4 rfl (Nat.le_of_ble_eq_true (by rfl)) ?_)
  intro w150_ S152_ H151_
  have S153_ := Same.trans S148_ S152_
  refine ⟨⟨(And.intro (Holds.rdf H151_ 3 rfl) (Holds.blk H151_ 3 rfl)), Holds.slrd H151_ 5 rfl, (Holds.ro_at H151_ 2 rfl)⟩, ?_⟩
  refine A_done (by kernel_rfl) ?_
  refine R_0 rfl ?_
  have H154_ := Holds.resl H151_ 5 rfl (by simp [SN.cells, List.flatMap_append] : (L.flatMap SN.cells) ++ [(Value.string ((ekSpan n.kb n.ke).in__Begin)), (Value.string ((ekSpan n.kb n.ke).in__End)), (vB ((ekSpan n.kb n.ke).in__Point)), (vI .i64 ((ekSpan n.kb n.ke).from_)), (vI .i64 ((ekSpan n.kb n.ke).till))] = (L ++ [ekSpan n.kb n.ke]).flatMap SN.cells) (by simp : (List.length L) + 1 = (List.length (L ++ [ekSpan n.kb n.ke])))
  have H155_ := Holds.resl H154_ 6 rfl (by simp : (V.map (vI .i64)) ++ [(vI .i64 val)] = (V ++ [val]).map (vI .i64)) (by simp : (List.length V) + 1 = (List.length (V ++ [val])))
  have H156_ : Holds w150_ (ro R :: clf n.a 185 [n.b, n.e, (Value.iface 3 (vI .i64 val)), n.mx, (vQ l), (vQ r), (vQ p), (vI .i64 n.c)] :: cl t7 59 [(vB okb), (vI .i64 i1), (vI .i64 i2), v127_, v144_] :: sl 44 5 v127_ (List.length (L ++ [ekSpan n.kb n.ke])) ((L ++ [ekSpan n.kb n.ke]).flatMap SN.cells) :: sl 3 1 v144_ (List.length (V ++ [val])) ((V ++ [val]).map (vI .i64)) :: F) := (Holds.pkF H155_ [2, 2, 2, 2, 2] 2 :)
  exact ⟨_, _, rfl, ⟨v127_, v144_, rfl, rfl⟩, S153_, H156_⟩
 refine AllR.cons ?_ AllR.nil
 refine A_op (ls' := #[true, false, true, true, true, true, true, true, false, false, false]) rfl (by kernel_rfl) (T_new (obj := .cells #[(vI .i64 val)] 3) (f := fun b__ => .slice (some ⟨b__, 0, none⟩) 1 1) (A := fun b__ => cl b__ 3 [(vI .i64 val)]) (by kernel_rfl) (fun l h => h.alloc _ _) H137_ ?_)
 intro b157_ w158_ S160_ H159_
 have S161_ := Same.trans (Same.trans S136_ (Same.drew _)) S160_
 refine ⟨⟨(And.intro (Holds.rdf H159_ 3 rfl) (Holds.blk H159_ 3 rfl)), Holds.slrd H159_ 5 rfl, (Holds.ro_at H159_ 2 rfl)⟩, ?_⟩
 refine A_ready (i := 1) (rs := []) (by kernel_rfl) ?_
 refine AllR.cons ?_ AllR.nil
 refine A_op (ls' := #[true, true, true, true, true, true, true, true, false, false, false]) rfl (by kernel_rfl) (T_val (v := vv) (x_load1 rfl Try.underlying35 rfl ((Holds.rd H159_ 4 rfl) 4 vv rfl)) ?_)
 refine ⟨⟨(And.intro (Holds.rdf H159_ 3 rfl) (Holds.blk H159_ 3 rfl)), Holds.slrd H159_ 5 rfl, (Holds.ro_at H159_ 2 rfl)⟩, ?_⟩
 refine A_ready (i := 8) (rs := []) (by kernel_rfl) ?_
 refine AllR.cons ?_ AllR.nil
 refine A_op (ls' := #[true, true, true, true, true, true, true, true, true, false, false]) rfl (by kernel_rfl) (T_append rfl rfl Try.underlying35 z3 rfl (by decide) H159_ 6 rfl (Holds.cl_src H159_ 0 rfl Try.underlying35 (by simp [Value.oneCell']) rfl) (by first | omega | (simp only [List.length_append, List.length_cons, List.length_nil]; omega)) ?_)
 intro v162_ w163_ S165_ H164_
 have S166_ := Same.trans S161_ S165_
 refine ⟨⟨(And.intro (Holds.rdf H164_ 3 rfl) (Holds.blk H164_ 3 rfl)), Holds.slrd H164_ 5 rfl, (Holds.ro_at H164_ 2 rfl)⟩, ?_⟩
 have hq167_ := And.intro ((And.intro (Holds.rdf H164_ 3 rfl) (Holds.blk H164_ 3 rfl))) (And.intro (Holds.slrd H164_ 5 rfl) ((Holds.ro_at H164_ 2 rfl)))
 refine A_tk 9 (v := (vP (some ⟨t7, 4, none⟩))) rfl (by kernel_rfl) (fun w hS => by kernel_rfl) hq167_ ?_
 refine A_ready (i := 10) (rs := []) (by kernel_rfl) ?_
 refine AllR.cons ?_ AllR.nil
 refine A_op0 (ls' := #[true, true, true, true, true, true, true, true, true, true, true]) rfl (by kernel_rfl) (T_store1 (v := v162_) rfl rfl z35 (Holds.sl_one H164_ 6 rfl) H164_ 4 rfl (Nat.le_of_ble_eq_true (by rfl)) ?_)
 intro w168_ S170_ H169_
 have S171_ := Same.trans S166_ S170_
 refine ⟨⟨(And.intro (Holds.rdf H169_ 3 rfl) (Holds.blk H169_ 3 rfl)), Holds.slrd H169_ 5 rfl, (Holds.ro_at H169_ 2 rfl)⟩, ?_⟩
 refine A_done (by kernel_rfl) ?_
 refine R_0 rfl ?_
 have H172_ := Holds.resl H169_ 5 rfl (by simp [SN.cells, List.flatMap_append] : (L.flatMap SN.cells) ++ [(Value.string ((ekSpan n.kb n.ke).in__Begin)), (Value.string ((ekSpan n.kb n.ke).in__End)), (vB ((ekSpan n.kb n.ke).in__Point)), (vI .i64 ((ekSpan n.kb n.ke).from_)), (vI .i64 ((ekSpan n.kb n.ke).till))] = (L ++ [ekSpan n.kb n.ke]).flatMap SN.cells) (by simp : (List.length L) + 1 = (List.length (L ++ [ekSpan n.kb n.ke])))
 have H173_ := Holds.resl H172_ 6 rfl (by simp : (V.map (vI .i64)) ++ [(vI .i64 val)] = (V ++ [val]).map (vI .i64)) (by simp : (List.length V) + 1 = (List.length (V ++ [val])))
 have H174_ : Holds w168_ (ro R :: clf n.a 185 [n.b, n.e, (Value.iface 3 (vI .i64 val)), n.mx, (vQ l), (vQ r), (vQ p), (vI .i64 n.c)] :: cl t7 59 [(vB okb), (vI .i64 i1), (vI .i64 i2), v127_, v162_] :: sl 44 5 v127_ (List.length (L ++ [ekSpan n.kb n.ke])) ((L ++ [ekSpan n.kb n.ke]).flatMap SN.cells) :: sl 3 1 v162_ (List.length (V ++ [val])) ((V ++ [val]).map (vI .i64)) :: F) := (Holds.pkF H173_ [2, 2, 2, 2, 2] 2 :)
 exact ⟨_, _, rfl, ⟨v127_, v162_, rfl, rfl⟩, S171_, H174_⟩
end Go.Proofs.Ytlnihndjepjagaa
set_option linter.unusedVariables false
set_option linter.unusedSimpArgs false
namespace Go.Proofs.Ytlnihndjepjagaa
open Go Go.RowKit Gw
open Go.Value renaming int → vI, bool → vB, slice → vS, pointer → vP, agg → vA, tuple → vT

structure TO where
  kind : Int
  in__In_Begin : ByteArray
  in__In_End : ByteArray
  in__In_Point : Bool
  in__From : Int
  in__Till : Int
  val : Int
  n : Int
  other : Value
  vals : Value
def TO.cells (x : TO) : List Value := [(vI .i64 x.kind), (Value.string x.in__In_Begin), (Value.string x.in__In_End), (vB x.in__In_Point), (vI .i64 x.in__From), (vI .i64 x.in__Till), (vI .i64 x.val), (vI .i64 x.n), x.other, x.vals]
theorem TO.len (x : TO) : x.cells.length = 10 := rfl

def goesOn (n : Int) (k : Nat) : Bool := decide (n ≤ 0) || decide ((k : Int) < n)


def spanOf (e : IE) : SN := ekSpan e.lo e.hi
def tvStep (n : Int) (s : List IE) (x : ND EK) : List IE × Bool := (s ++ [eOf x], goesOn n (s ++ [eOf x]).length)
end Go.Proofs.Ytlnihndjepjagaa
set_option linter.unusedVariables false
set_option linter.unusedSimpArgs false
namespace Go.Proofs.Ytlnihndjepjagaa
open Go Go.RowKit Gw
open Go.Value renaming int → vI, bool → vB, slice → vS, pointer → vP, agg → vA, tuple → vT

/-! ### A state with a fact -/
theorem insK_len {ord : Int} {z : IE} : ∀ M : List IE, (insK ord z M).length = M.length + 1
  | [] => rfl
  | x :: M => by
    rw [insK]
    split
    · rfl
    · rw [List.length_cons, insK_len M, List.length_cons]
def tuStep (ord : Int) (M : List IE) (x : ND EK) : List IE × Bool := (insK ord (eOf x) M, true)


end Go.Proofs.Ytlnihndjepjagaa
set_option linter.unusedVariables false
set_option linter.unusedSimpArgs false
namespace Go.Proofs.Ytlnihndjepjagaa
open Go Go.RowKit Gw
open Go.Value renaming int → vI, bool → vB, slice → vS, pointer → vP, agg → vA, tuple → vT

end Go.Proofs.Ytlnihndjepjagaa
set_option linter.unusedVariables false
set_option linter.unusedSimpArgs false
namespace Go.Proofs.Ytlnihndjepjagaa
open Go Go.RowKit Gw
open Go.Value renaming int → vI, bool → vB, slice → vS, pointer → vP, agg → vA, tuple → vT

end Go.Proofs.Ytlnihndjepjagaa
set_option linter.unusedVariables false
set_option linter.unusedSimpArgs false
namespace Go.Proofs.Ytlnihndjepjagaa
open Go Go.RowKit Gw
open Go.Value renaming int → vI, bool → vB, slice → vS, pointer → vP, agg → vA, tuple → vT

structure TA where
  oK : Bool
  n : Int
  most : Int
  list : Value
  vals : Value
def TA.cells (x : TA) : List Value := [(vB x.oK), (vI .i64 x.n), (vI .i64 x.most), x.list, x.vals]
theorem TA.len (x : TA) : x.cells.length = 5 := rfl

def TO.sn (o : TO) : SN := ⟨o.in__In_Begin, o.in__In_End, o.in__In_Point, o.in__From, o.in__Till⟩
/-- An answer. -/
structure TAx where
  ok : Bool
  n : Int
  L : List SN
  V : List Int
def AnsAt (R : HP) (a : TA) (x : TAx) : Prop := a.oK = x.ok ∧ a.n = x.n ∧ RS R 5 a.list x.L.length (x.L.flatMap SN.cells) ∧ RS R 1 a.vals x.V.length (x.V.map (vI .i64))
theorem AnsAt.mono {R R' : HP} (s : Sub R R') {a : TA} {x : TAx} (h : AnsAt R a x) : AnsAt R' a x := ⟨h.1, h.2.1, h.2.2.1.mono s, h.2.2.2.mono s⟩
def sameK (ord : Int) (lo hi : EK) (e : IE) : Bool := decide (ecm ord lo e.lo = 0) && decide (ecm ord hi e.hi = 0)
theorem sameK_iff {ord : Int} {lo hi : EK} {e : IE} : sameK ord lo hi e = true ↔ e.lo = lo ∧ e.hi = hi := by
  unfold sameK
  rw [Bool.and_eq_true, decide_eq_true_eq, decide_eq_true_eq]
  constructor
  · exact fun h => ⟨(ecm_anti ord h.1).symm, (ecm_anti ord h.2).symm⟩
  · rintro ⟨h1, h2⟩
    rw [h1, h2, ecm_refl, ecm_refl]
    exact ⟨rfl, rfl⟩
def UniqK (M : List IE) : Prop := ∀ e ∈ M, ∀ e' ∈ M, e.lo = e'.lo → e.hi = e'.hi → e = e'
def findX (ord : Int) (M : List IE) (lo hi : EK) : TAx := match M.find? (sameK ord lo hi) with | none => ⟨false, 0, [], []⟩ | some e => ⟨true, 0, [spanOf e], [e.val]⟩
theorem findX_hit {ord : Int} {M : List IE} {lo hi : EK} {e : IE} (hu : UniqK M) (he : e ∈ M) (h1 : e.lo = lo) (h2 : e.hi = hi) : findX ord M lo hi = ⟨true, 0, [spanOf e], [e.val]⟩ := by
  unfold findX
  cases hf : M.find? (sameK ord lo hi) with
  | none =>
    have := List.find?_eq_none.1 hf e he
    exact absurd (sameK_iff.2 ⟨h1, h2⟩) this
  | some e' =>
    have h3 := sameK_iff.1 (List.find?_some hf)
    have h4 := List.mem_of_find?_eq_some hf
    rw [hu e he e' h4 (h1.trans h3.1.symm) (h2.trans h3.2.symm)]
theorem findX_miss {ord : Int} {M : List IE} {lo hi : EK} (h : ∀ e ∈ M, ¬ (e.lo = lo ∧ e.hi = hi)) : findX ord M lo hi = ⟨false, 0, [], []⟩ := by
  unfold findX
  have : M.find? (sameK ord lo hi) = none := List.find?_eq_none.2 fun e he hs => h e he (sameK_iff.1 hs)
  rw [this]
/-- The first ones. -/
def visS (n : Int) (l : List IE) : List IE := if n ≤ 0 then l else l.take n.toNat
theorem run_tv (n : Int) : ∀ (L : List (ND EK)) (s : List IE), (n ≤ 0 ∨ (s.length : Int) < n) → (runV (tvStep n) L s).1 = s ++ (if n ≤ 0 then L.map eOf else (L.map eOf).take (n.toNat - s.length))
  | [], s, _ => by simp [runV]
  | x :: L, s, h => by
    rw [runV]
    by_cases hg : (tvStep n s x).2 = true
    · rw [if_pos hg]
      have hg' : n ≤ 0 ∨ ((s ++ [eOf x]).length : Int) < n := by
        have : goesOn n (s ++ [eOf x]).length = true := hg
        unfold goesOn at this
        simpa using this
      show (runV (tvStep n) L (s ++ [eOf x])).1 = _
      rw [run_tv n L _ hg']
      by_cases h0 : n ≤ 0
      · rw [if_pos h0, if_pos h0]; simp
      · rw [if_neg h0, if_neg h0, List.map_cons]
        have e1 : n.toNat - s.length = (n.toNat - (s ++ [eOf x]).length) + 1 := by
          rw [List.length_append] at hg' ⊢
          simp at hg' ⊢
          omega
        rw [e1, List.take_succ_cons]
        simp
    · rw [if_neg hg]
      show s ++ [eOf x] = _
      have hg' : ¬ (n ≤ 0 ∨ ((s ++ [eOf x]).length : Int) < n) := fun h => hg (by
        show goesOn n (s ++ [eOf x]).length = true
        unfold goesOn
        simpa using h)
      have h0 : ¬ n ≤ 0 := fun h => hg' (.inl h)
      have e1 : n.toNat - s.length = 1 := by
        rw [List.length_append] at hg'
        simp at hg'
        omega
      rw [if_neg h0, e1, List.map_cons]
      rfl
theorem TS.vis {ord : Int} {R : HP} {W : Tr EK} {M : List IE} (h : TS ord R W M) (hp : PrpK ord M) {lo hi : EK} (hq : ecm ord lo hi < 0) (n : Int) : (Go.Proofs.Ytlnihndjepjagaa.vis (EO ord) (tvStep n) lo hi W []).1 = visS n (M.filter (meetK ord lo hi)) := by
  rw [vis_eq (O := EO ord) (step := tvStep n) (fun s n => rfl) hq [] h.s h.ok.2.1 (h.prp hp), run_tv n _ [] (by simp; omega), meets_filter h.m]
  unfold visS
  simp
def insAll (ord : Int) (M N : List IE) : List IE := N.foldl (fun M e => insK ord e M) M
theorem run_tu (ord : Int) : ∀ (L : List (ND EK)) (M : List IE), (runV (tuStep ord) L M).1 = insAll ord M (L.map eOf)
  | [], M => rfl
  | x :: L, M => by
    rw [runV, if_pos (show (tuStep ord M x).2 = true from rfl), List.map_cons]
    show (runV (tuStep ord) L (insK ord (eOf x) M)).1 = _
    rw [run_tu ord L]
    rfl
theorem TS.uni {ord : Int} {R : HP} {U : Tr EK} {N : List IE} (h : TS ord R U N) (hp : PrpK ord N) {lo hi : EK} (hq : ecm ord lo hi < 0) (M : List IE) : (Go.Proofs.Ytlnihndjepjagaa.vis (EO ord) (tuStep ord) lo hi U M).1 = insAll ord M (N.filter (meetK ord lo hi)) := by
  rw [vis_eq (O := EO ord) (step := tuStep ord) (fun s n => rfl) hq M h.s h.ok.2.1 (h.prp hp), run_tu, meets_filter h.m]
end Go.Proofs.Ytlnihndjepjagaa
set_option linter.unusedVariables false
set_option linter.unusedSimpArgs false
namespace Go.Proofs.Ytlnihndjepjagaa
open Go Go.RowKit Gw
open Go.Value renaming int → vI, bool → vB, slice → vS, pointer → vP, agg → vA, tuple → vT

set_option maxHeartbeats 8000000 in
theorem tdoIns (R : HP) (ord : Int) (tb sb : Nat) (sc : List Value) (W : Tr EK) (M : List IE) (o : TO) (hM : TS ord R W M) (hok : SnOk ord o.sn) (hml : M.length ≤ 10000000) (hk : o.kind = 1) :
    TriG Try.prog 63 #[(Value.iface 186 (vQ tb)), (vI .i64 ord), (vA #[(vI .i64 o.kind), (Value.string o.in__In_Begin), (Value.string o.in__In_End), (vB o.in__In_Point), (vI .i64 o.in__From), (vI .i64 o.in__Till), (vI .i64 o.val), (vI .i64 o.n), o.other, o.vals])] R [cl tb 188 [(vQ (rt sb W)), (vI .i64 (List.length M : Int)), (vQ sb)], tr sb sb W, clf sb 185 sc] (fun R' v__ post__ => ∃ (a : TA) (W2 : Tr EK), v__ = (vA #[(vB a.oK), (vI .i64 a.n), (vI .i64 a.most), a.list, a.vals]) ∧ post__ = [cl tb 188 [(vQ (rt sb W2)), (vI .i64 (List.length (insK ord ⟨o.sn.lo ord, o.sn.hi ord, o.val⟩ M) : Int)), (vQ sb)], tr sb sb W2, clf sb 185 sc] ∧ (TS ord R' W2 (insK ord ⟨o.sn.lo ord, o.sn.hi ord, o.val⟩ M)) ∧ (AnsAt R' a (⟨false, 0, [], []⟩ : TAx))) := by
 refine TriG.into (n := 133) (al := [(Value.iface 186 (vQ tb)), (vI .i64 ord), (vA #[(vI .i64 o.kind), (Value.string o.in__In_Begin), (Value.string o.in__In_End), (vB o.in__In_Point), (vI .i64 o.in__From), (vI .i64 o.in__Till), (vI .i64 o.val), (vI .i64 o.n), o.other, o.vals])]) Try.func63 rfl Try.ntmps63 rfl rfl fun w F H => ?_
 refine C_seq (fun K1_ hK1_ => C_reg ?_)
 refine S_list (T_box (v := (vA #[(vI .i64 o.kind), (Value.string o.in__In_Begin), (Value.string o.in__In_End), (vB o.in__In_Point), (vI .i64 o.in__From), (vI .i64 o.in__Till), (vI .i64 o.val), (vI .i64 o.n), o.other, o.vals])) rfl H ?_)
 intro b2_ w3_ S5_ H4_
 have S6_ := Same.trans (Same.refl w) S5_
 refine S_list (T_alloc z59 H4_ ?_)
 intro b7_ w8_ S10_ H9_
 have S11_ := Same.trans S6_ S10_
 refine wpList_nil (X_then (hK1_ _ _ ?_))
 clear hK1_
 refine C_seq (fun K12_ hK12_ => C_reg ?_)
 refine sv (v := (vA #[(vB false), (vI .i64 0), (vI .i64 0), (vS none 0 0), (vS none 0 0)])) (by kernel_rfl) ?_
 refine S_list (T_alloc z59 H9_ ?_)
 intro b13_ w14_ S16_ H15_
 have S17_ := Same.trans S11_ S16_
 refine S_list0 (T_storeN (vs := [(vB false), (vI .i64 0), (vI .i64 0), (vS none 0 0), (vS none 0 0)]) rfl rfl z59 rfl (by simp [Value.oneCell']) H15_ 0 rfl (Nat.le_of_ble_eq_true (by rfl)) ?_)
 intro w18_ S20_ H19_
 have S21_ := Same.trans S17_ S20_
 refine wpList_nil (X_then (hK12_ _ _ ?_))
 clear hK12_
 refine C_seq (fun K22_ hK22_ => C_reg ?_)
 refine sv (v := (vI .i64 ord)) (x_move rfl) ?_
 refine sv (v := (vP (some ⟨b2_, 1, none⟩))) (by kernel_rfl) ?_
 refine sv (v := (vA #[(Value.string o.in__In_Begin), (Value.string o.in__In_End), (vB o.in__In_Point), (vI .i64 o.in__From), (vI .i64 o.in__Till)])) (x_loadN (vs := [(Value.string o.in__In_Begin), (Value.string o.in__In_End), (vB o.in__In_Point), (vI .i64 o.in__From), (vI .i64 o.in__Till)]) rfl Try.underlying44 rfl z44 rfl (Rd.cells (Holds.rd H19_ 2 rfl) 1 rfl)) ?_
 have H32_ := ((Holds.bring H19_ 3 rfl) :)
 refine S_list (T_callG (al := [(vI .i64 ord), (vA #[(Value.string o.sn.in__Begin), (Value.string o.sn.in__End), (vB o.sn.in__Point), (vI .i64 o.sn.from_), (vI .i64 o.sn.till)])]) (pre := []) rfl (lcons rfl (lcons (congrArg (fun l => vA (List.toArray l)) (lcons (congrArg Value.string ((by first | rfl | omega | (simp; done) | (simp; omega)) : o.in__In_Begin = o.sn.in__Begin)) (lcons (congrArg Value.string ((by first | rfl | omega | (simp; done) | (simp; omega)) : o.in__In_End = o.sn.in__End)) (lcons (congrArg vB ((by first | rfl | omega | (simp; done) | (simp; omega)) : o.in__In_Point = o.sn.in__Point)) (lcons (congrArg (vI .i64) ((by first | rfl | omega | (simp; done) | (simp; omega)) : o.in__From = o.sn.from_)) (lcons (congrArg (vI .i64) ((by first | rfl | omega | (simp; done) | (simp; omega)) : o.in__Till = o.sn.till)) rfl)))))) rfl)) cb85 (spIn R ord o.sn (hok)) H32_ ?_)
 rintro R24_ v25_ p36_ w33_ hs23_ ⟨t126_, t227_, x128_, x229_, rfl, rfl, he30_, he31_⟩ S35_ H34_
 have S37_ := Same.trans S21_ S35_
 refine S_list (T_alloc z111 H34_ ?_)
 intro b38_ w39_ S41_ H40_
 have S42_ := Same.trans S37_ S41_
 refine S_list0 (T_storeN (vs := [((Value.iface t126_ x128_)), ((Value.iface t227_ x229_))]) rfl rfl z111 rfl (by simp [Value.oneCell']) H40_ 0 rfl (Nat.le_of_ble_eq_true (by rfl)) ?_)
 intro w43_ S45_ H44_
 have S46_ := Same.trans S42_ S45_
 refine wpList_nil (X_then (hK22_ _ _ ?_))
 clear hK22_
 refine C_seq (fun K47_ hK47_ => C_reg ?_)
 refine sv (v := (Value.func (.func 86) #[] #[(vQ b13_)])) (by kernel_rfl) ?_
 refine S_list (T_alloc z190 H44_ ?_)
 intro b48_ w49_ S51_ H50_
 have S52_ := Same.trans S46_ S51_
 refine S_list0 (T_store1 (v := (Value.func (.func 86) #[] #[(vQ b13_)])) rfl rfl z190 rfl H50_ 0 rfl (Nat.le_of_ble_eq_true (by rfl)) ?_)
 intro w53_ S55_ H54_
 have S56_ := Same.trans S52_ S55_
 refine wpList_nil (X_then (hK47_ _ _ ?_))
 clear hK47_
 refine C_seq (fun K57_ hK57_ => ?_)
 refine C_seq (fun K58_ hK58_ => C_reg ?_)
 refine sv (v := (vQ b2_)) (by kernel_rfl) ?_
 refine sv (v := (vI .i64 o.kind)) (x_load1 rfl Try.underlying3 rfl ((Holds.rd H54_ 5 rfl) 0 (vI .i64 o.kind) rfl)) ?_
 refine wpList_nil (X_then (hK58_ _ _ ?_))
 clear hK58_
 refine C_block ?_
 refine C_seq (fun K59_ hK59_ => C_reg ?_)
 refine sv (v := (vB (decide (o.kind = 1)))) (x_bin rfl rfl rfl) ?_
 refine sv (v := (vB (decide (o.kind = 1)))) (x_assign rfl) ?_
 refine wpList_nil (X_then (hK59_ _ _ ?_))
 clear hK59_
 refine C_cond (b := decide (o.kind = 1)) rfl (fun c60_t => ?_) (fun c60_f => ?_)
 ·have c60_tp : o.kind = 1 := of_decide_eq_true c60_t
  refine C_reg ?_
  refine sv (v := (Value.iface 186 (vQ tb))) (x_move rfl) ?_
  refine sv (v := (vA #[((Value.iface t126_ x128_)), ((Value.iface t227_ x229_))])) (x_loadN (vs := [((Value.iface t126_ x128_)), ((Value.iface t227_ x229_))]) rfl Try.underlying111 rfl z111 rfl (Rd.cells (Holds.rd H54_ 1 rfl) 0 rfl)) ?_
  refine sv (v := (vP (some ⟨b2_, 6, none⟩))) (by kernel_rfl) ?_
  refine sv (v := (vI .i64 o.val)) (x_load1 rfl Try.underlying3 rfl ((Holds.rd H54_ 5 rfl) 6 (vI .i64 o.val) rfl)) ?_
  refine sv (v := (Value.iface 3 (vI .i64 o.val))) (by kernel_rfl) ?_
  have H73_ := ((Holds.bring (Holds.bring (Holds.bring (Holds.bring H54_ 8 rfl) 8 rfl) 8 rfl) 5 rfl) :)
  refine S_list (T_invoke (al := [(vQ tb), (vA #[((Value.iface t126_ x128_)), ((Value.iface t227_ x229_))]), ((Value.iface 3 (vI .i64 o.val)))]) (pre := [cl tb 188 [(vQ (rt sb W)), (vI .i64 (List.length M : Int)), (vQ sb)], tr sb sb W, clf sb 185 sc]) rfl (fun w => by kernel_rfl) (lcons rfl (lcons rfl (lcons (rfl : (Value.iface 3 (vI .i64 o.val)) = ((Value.iface 3 (vI .i64 o.val)))) rfl))) cb147 (itInsert R24_ EK (EO ord) tb sb (List.length M : Int) sc W t126_ t227_ 3 x128_ x229_ (vI .i64 o.val) (o.sn.lo ord) (o.sn.hi ord) (((hM.mono hs23_)).ok) (he30_) (he31_) (by omega) (hM.s)) H73_ ?_)
  rintro v61_ p77_ w74_ ⟨W62_, L163_, L264_, z65_, rfl, rfl, he66_, he67_, he68_, he69_, he70_, he71_, he72_⟩ S76_ H75_
  have S78_ := Same.trans S56_ S76_
  have hTn79_ : TS ord R24_ W62_ (insK ord ⟨o.sn.lo ord, o.sn.hi ord, o.val⟩ M) := TS.ins (hM.mono hs23_) he66_ he67_ he68_ he69_ he70_ he71_ he72_
  refine wpList_nil (X_blkN (X_then (hK57_ _ _ ?_)))
  clear hK57_
  refine C_seq (fun K80_ hK80_ => C_reg ?_)
  refine sv (v := (vA #[(vB false), (vI .i64 0), (vI .i64 0), (vS none 0 0), (vS none 0 0)])) (x_loadN (vs := [(vB false), (vI .i64 0), (vI .i64 0), (vS none 0 0), (vS none 0 0)]) rfl Try.underlying59 rfl z59 rfl (Rd.cells (Holds.rd H75_ 6 rfl) 0 rfl)) ?_
  refine S_list0 (T_storeN (vs := [(vB false), (vI .i64 0), (vI .i64 0), (vS none 0 0), (vS none 0 0)]) rfl rfl z59 rfl (by simp [Value.oneCell']) H75_ 7 rfl (Nat.le_of_ble_eq_true (by rfl)) ?_)
  intro w81_ S83_ H82_
  have S84_ := Same.trans S78_ S83_
  refine wpList_nil (X_then (hK80_ _ _ ?_))
  clear hK80_
  refine C_ret ?_
  refine R_any (v := (vA #[(vB false), (vI .i64 0), (vI .i64 0), (vS none 0 0), (vS none 0 0)])) (run_results1 rfl ⟨_, rfl, load_resN Try.underlying59 rfl z59 rfl (vs := [(vB false), (vI .i64 0), (vI .i64 0), (vS none 0 0), (vS none 0 0)]) (Holds.cl_cells H82_ 7 rfl 0 rfl)⟩) ?_
  have H85_ := Holds.recl H82_ 1 rfl ((lcons rfl (lcons (congrArg (vI .i64) ((by rw [insK_len]; rfl) : (List.length M : Int) + 1 = (List.length (insK ord ⟨o.sn.lo ord, o.sn.hi ord, o.val⟩ M) : Int))) rfl)) : [(vQ (rt sb W62_)), (vI .i64 ((List.length M : Int) + 1)), (vQ sb)] = [(vQ (rt sb W62_)), (vI .i64 (List.length (insK ord ⟨o.sn.lo ord, o.sn.hi ord, o.val⟩ M) : Int)), (vQ sb)])
  have H86_ : Holds w81_ (ro R24_ :: cl tb 188 [(vQ (rt sb W62_)), (vI .i64 (List.length (insK ord ⟨o.sn.lo ord, o.sn.hi ord, o.val⟩ M) : Int)), (vQ sb)] :: tr sb sb W62_ :: clf sb 185 sc :: F) := (Holds.pkF H85_ [0, 0, 0, 0] 5 :)
  exact ⟨R24_, _, _, rfl, hs23_, ⟨(⟨false, 0, 0, (vS none 0 0), (vS none 0 0)⟩ : TA), W62_, (congrArg (fun l => vA (List.toArray l)) (lcons (congrArg vB ((by first | rfl | omega | (simp; done) | (simp; omega)) : false = ((⟨false, 0, 0, (vS none 0 0), (vS none 0 0)⟩ : TA).oK))) (lcons (congrArg (vI .i64) ((by first | rfl | omega | (simp; done) | (simp; omega)) : 0 = (⟨false, 0, 0, (vS none 0 0), (vS none 0 0)⟩ : TA).n)) (lcons (congrArg (vI .i64) ((by first | rfl | omega | (simp; done) | (simp; omega)) : 0 = (⟨false, 0, 0, (vS none 0 0), (vS none 0 0)⟩ : TA).most)) (lcons ((by first | rfl | omega | (simp; done) | (simp; omega)) : (vS none 0 0) = ((⟨false, 0, 0, (vS none 0 0), (vS none 0 0)⟩ : TA).list)) (lcons ((by first | rfl | omega | (simp; done) | (simp; omega)) : (vS none 0 0) = ((⟨false, 0, 0, (vS none 0 0), (vS none 0 0)⟩ : TA).vals)) rfl)))))), rfl, (hTn79_), (⟨rfl, rfl, RS.nil _ _, RS.nil _ _⟩)⟩, S84_, H86_⟩
 ·have c60_fp : ¬ (o.kind = 1) := of_decide_eq_false c60_f
  omega
end Go.Proofs.Ytlnihndjepjagaa
set_option linter.unusedVariables false
set_option linter.unusedSimpArgs false
namespace Go.Proofs.Ytlnihndjepjagaa
open Go Go.RowKit Gw
open Go.Value renaming int → vI, bool → vB, slice → vS, pointer → vP, agg → vA, tuple → vT

end Go.Proofs.Ytlnihndjepjagaa
set_option linter.unusedVariables false
set_option linter.unusedSimpArgs false
namespace Go.Proofs.Ytlnihndjepjagaa
open Go Go.RowKit Gw
open Go.Value renaming int → vI, bool → vB, slice → vS, pointer → vP, agg → vA, tuple → vT

theorem tk_unplug {K : Type} {O : KO K} {R : HP} : ∀ {C : List (Fr K)} {t : Tr K}, TOk O R (plug C t) → TOk O R t
  | [], t, h => h
  | f :: C, t, h => (TOk.unfill (tk_unplug (C := C) (t := f.fill t) h)).2.2

set_option maxHeartbeats 8000000 in
theorem tdoFind (R : HP) (ord : Int) (tb sb : Nat) (sc : List Value) (W : Tr EK) (M : List IE) (o : TO) (hM : TS ord R W M) (hok : SnOk ord o.sn) (hml : M.length ≤ 10000000) (hun : UniqK M) (hk : o.kind = 3) :
    TriG Try.prog 63 #[(Value.iface 186 (vQ tb)), (vI .i64 ord), (vA #[(vI .i64 o.kind), (Value.string o.in__In_Begin), (Value.string o.in__In_End), (vB o.in__In_Point), (vI .i64 o.in__From), (vI .i64 o.in__Till), (vI .i64 o.val), (vI .i64 o.n), o.other, o.vals])] R [cl tb 188 [(vQ (rt sb W)), (vI .i64 (List.length M : Int)), (vQ sb)], tr sb sb W, clf sb 185 sc] (fun R' v__ post__ => ∃ (a : TA) (W2 : Tr EK), v__ = (vA #[(vB a.oK), (vI .i64 a.n), (vI .i64 a.most), a.list, a.vals]) ∧ post__ = [cl tb 188 [(vQ (rt sb W2)), (vI .i64 (List.length M : Int)), (vQ sb)], tr sb sb W2, clf sb 185 sc] ∧ (TS ord R' W2 M) ∧ (AnsAt R' a (findX ord M (o.sn.lo ord) (o.sn.hi ord)))) := by
 refine TriG.into (n := 133) (al := [(Value.iface 186 (vQ tb)), (vI .i64 ord), (vA #[(vI .i64 o.kind), (Value.string o.in__In_Begin), (Value.string o.in__In_End), (vB o.in__In_Point), (vI .i64 o.in__From), (vI .i64 o.in__Till), (vI .i64 o.val), (vI .i64 o.n), o.other, o.vals])]) Try.func63 rfl Try.ntmps63 rfl rfl fun w F H => ?_
 refine C_seq (fun K1_ hK1_ => C_reg ?_)
 refine S_list (T_box (v := (vA #[(vI .i64 o.kind), (Value.string o.in__In_Begin), (Value.string o.in__In_End), (vB o.in__In_Point), (vI .i64 o.in__From), (vI .i64 o.in__Till), (vI .i64 o.val), (vI .i64 o.n), o.other, o.vals])) rfl H ?_)
 intro b2_ w3_ S5_ H4_
 have S6_ := Same.trans (Same.refl w) S5_
 refine S_list (T_alloc z59 H4_ ?_)
 intro b7_ w8_ S10_ H9_
 have S11_ := Same.trans S6_ S10_
 refine wpList_nil (X_then (hK1_ _ _ ?_))
 clear hK1_
 refine C_seq (fun K12_ hK12_ => C_reg ?_)
 refine sv (v := (vA #[(vB false), (vI .i64 0), (vI .i64 0), (vS none 0 0), (vS none 0 0)])) (by kernel_rfl) ?_
 refine S_list (T_alloc z59 H9_ ?_)
 intro b13_ w14_ S16_ H15_
 have S17_ := Same.trans S11_ S16_
 refine S_list0 (T_storeN (vs := [(vB false), (vI .i64 0), (vI .i64 0), (vS none 0 0), (vS none 0 0)]) rfl rfl z59 rfl (by simp [Value.oneCell']) H15_ 0 rfl (Nat.le_of_ble_eq_true (by rfl)) ?_)
 intro w18_ S20_ H19_
 have S21_ := Same.trans S17_ S20_
 refine wpList_nil (X_then (hK12_ _ _ ?_))
 clear hK12_
 refine C_seq (fun K22_ hK22_ => C_reg ?_)
 refine sv (v := (vI .i64 ord)) (x_move rfl) ?_
 refine sv (v := (vP (some ⟨b2_, 1, none⟩))) (by kernel_rfl) ?_
 refine sv (v := (vA #[(Value.string o.in__In_Begin), (Value.string o.in__In_End), (vB o.in__In_Point), (vI .i64 o.in__From), (vI .i64 o.in__Till)])) (x_loadN (vs := [(Value.string o.in__In_Begin), (Value.string o.in__In_End), (vB o.in__In_Point), (vI .i64 o.in__From), (vI .i64 o.in__Till)]) rfl Try.underlying44 rfl z44 rfl (Rd.cells (Holds.rd H19_ 2 rfl) 1 rfl)) ?_
 have H32_ := ((Holds.bring H19_ 3 rfl) :)
 refine S_list (T_callG (al := [(vI .i64 ord), (vA #[(Value.string o.sn.in__Begin), (Value.string o.sn.in__End), (vB o.sn.in__Point), (vI .i64 o.sn.from_), (vI .i64 o.sn.till)])]) (pre := []) rfl (lcons rfl (lcons (congrArg (fun l => vA (List.toArray l)) (lcons (congrArg Value.string ((by first | rfl | omega | (simp; done) | (simp; omega)) : o.in__In_Begin = o.sn.in__Begin)) (lcons (congrArg Value.string ((by first | rfl | omega | (simp; done) | (simp; omega)) : o.in__In_End = o.sn.in__End)) (lcons (congrArg vB ((by first | rfl | omega | (simp; done) | (simp; omega)) : o.in__In_Point = o.sn.in__Point)) (lcons (congrArg (vI .i64) ((by first | rfl | omega | (simp; done) | (simp; omega)) : o.in__From = o.sn.from_)) (lcons (congrArg (vI .i64) ((by first | rfl | omega | (simp; done) | (simp; omega)) : o.in__Till = o.sn.till)) rfl)))))) rfl)) cb85 (spIn R ord o.sn (hok)) H32_ ?_)
 rintro R24_ v25_ p36_ w33_ hs23_ ⟨t126_, t227_, x128_, x229_, rfl, rfl, he30_, he31_⟩ S35_ H34_
 have S37_ := Same.trans S21_ S35_
 refine S_list (T_alloc z111 H34_ ?_)
 intro b38_ w39_ S41_ H40_
 have S42_ := Same.trans S37_ S41_
 refine S_list0 (T_storeN (vs := [((Value.iface t126_ x128_)), ((Value.iface t227_ x229_))]) rfl rfl z111 rfl (by simp [Value.oneCell']) H40_ 0 rfl (Nat.le_of_ble_eq_true (by rfl)) ?_)
 intro w43_ S45_ H44_
 have S46_ := Same.trans S42_ S45_
 refine wpList_nil (X_then (hK22_ _ _ ?_))
 clear hK22_
 refine C_seq (fun K47_ hK47_ => C_reg ?_)
 refine sv (v := (Value.func (.func 86) #[] #[(vQ b13_)])) (by kernel_rfl) ?_
 refine S_list (T_alloc z190 H44_ ?_)
 intro b48_ w49_ S51_ H50_
 have S52_ := Same.trans S46_ S51_
 refine S_list0 (T_store1 (v := (Value.func (.func 86) #[] #[(vQ b13_)])) rfl rfl z190 rfl H50_ 0 rfl (Nat.le_of_ble_eq_true (by rfl)) ?_)
 intro w53_ S55_ H54_
 have S56_ := Same.trans S52_ S55_
 refine wpList_nil (X_then (hK47_ _ _ ?_))
 clear hK47_
 refine C_seq (fun K57_ hK57_ => ?_)
 refine C_seq (fun K58_ hK58_ => C_reg ?_)
 refine sv (v := (vQ b2_)) (by kernel_rfl) ?_
 refine sv (v := (vI .i64 o.kind)) (x_load1 rfl Try.underlying3 rfl ((Holds.rd H54_ 5 rfl) 0 (vI .i64 o.kind) rfl)) ?_
 refine wpList_nil (X_then (hK58_ _ _ ?_))
 clear hK58_
 refine C_block ?_
 refine C_seq (fun K59_ hK59_ => C_reg ?_)
 refine sv (v := (vB (decide (o.kind = 1)))) (x_bin rfl rfl rfl) ?_
 refine sv (v := (vB (decide (o.kind = 1)))) (x_assign rfl) ?_
 refine wpList_nil (X_then (hK59_ _ _ ?_))
 clear hK59_
 refine C_cond (b := decide (o.kind = 1)) rfl (fun c60_t => ?_) (fun c60_f => ?_)
 ·have c60_tp : o.kind = 1 := of_decide_eq_true c60_t
  omega
 ·have c60_fp : ¬ (o.kind = 1) := of_decide_eq_false c60_f
  refine C_seq (fun K61_ hK61_ => C_reg ?_)
  refine sv (v := (vB (decide (o.kind = 2)))) (x_bin rfl rfl rfl) ?_
  refine sv (v := (vB (decide (o.kind = 2)))) (x_assign rfl) ?_
  refine wpList_nil (X_then (hK61_ _ _ ?_))
  clear hK61_
  refine C_cond (b := decide (o.kind = 2)) rfl (fun c62_t => ?_) (fun c62_f => ?_)
  ·have c62_tp : o.kind = 2 := of_decide_eq_true c62_t
   omega
  ·have c62_fp : ¬ (o.kind = 2) := of_decide_eq_false c62_f
   refine C_seq (fun K63_ hK63_ => C_reg ?_)
   refine sv (v := (vB (decide (o.kind = 3)))) (x_bin rfl rfl rfl) ?_
   refine sv (v := (vB (decide (o.kind = 3)))) (x_assign rfl) ?_
   refine wpList_nil (X_then (hK63_ _ _ ?_))
   clear hK63_
   refine C_cond (b := decide (o.kind = 3)) rfl (fun c64_t => ?_) (fun c64_f => ?_)
   ·have c64_tp : o.kind = 3 := of_decide_eq_true c64_t
    refine C_seq (fun K65_ hK65_ => C_reg ?_)
    refine sv (v := (Value.iface 186 (vQ tb))) (x_move rfl) ?_
    refine sv (v := (vA #[((Value.iface t126_ x128_)), ((Value.iface t227_ x229_))])) (x_loadN (vs := [((Value.iface t126_ x128_)), ((Value.iface t227_ x229_))]) rfl Try.underlying111 rfl z111 rfl (Rd.cells (Holds.rd H54_ 1 rfl) 0 rfl)) ?_
    have H74_ := ((Holds.bring (Holds.bring (Holds.bring (Holds.bring H54_ 8 rfl) 8 rfl) 8 rfl) 5 rfl) :)
    refine S_list (T_invoke (al := [(vQ tb), (vA #[((Value.iface t126_ x128_)), ((Value.iface t227_ x229_))])]) (pre := [cl tb 188 [(vQ (rt sb W)), (vI .i64 (List.length M : Int)), (vQ sb)], tr sb sb W, clf sb 185 sc]) rfl (fun w => by kernel_rfl) rfl cb145 (itFind R24_ EK (EO ord) tb sb (List.length M : Int) sc W t126_ t227_ x128_ x229_ (o.sn.lo ord) (o.sn.hi ord) (((hM.mono hs23_)).ok.1) (hM.s) (he30_) (he31_)) H74_ ?_)
    rintro v66_ p78_ w75_ hq79_ S77_ H76_
    rcases hq79_ with ⟨rfl, rfl, he67_⟩ | ⟨C68_, n69_, a70_, b71_, rfl, rfl, he72_, he73_⟩
    ·skip
     have S80_ := Same.trans S56_ S77_
     have hX_ : (findX ord M (o.sn.lo ord) (o.sn.hi ord)) = ⟨false, 0, [], []⟩ := findX_miss (hM.miss he67_)
     refine sv (v := (vP none)) (x_assign rfl) ?_
     refine wpList_nil (X_then (hK65_ _ _ ?_))
     clear hK65_
     refine C_seq (fun K85_ hK85_ => C_reg ?_)
     refine sv (v := (vP none)) (x_move rfl) ?_
     refine sv (v := (vB false)) (by kernel_rfl) ?_
     refine wpList_nil (X_then (hK85_ _ _ ?_))
     clear hK85_
     refine C_condF rfl ?_
     refine C_skip (X_blkN (X_then (hK57_ _ _ ?_)))
     clear hK57_
     refine C_seq (fun K86_ hK86_ => C_reg ?_)
     refine sv (v := (vA #[(vB false), (vI .i64 0), (vI .i64 0), (vS none 0 0), (vS none 0 0)])) (x_loadN (vs := [(vB false), (vI .i64 0), (vI .i64 0), (vS none 0 0), (vS none 0 0)]) rfl Try.underlying59 rfl z59 rfl (Rd.cells (Holds.rd H76_ 6 rfl) 0 rfl)) ?_
     refine S_list0 (T_storeN (vs := [(vB false), (vI .i64 0), (vI .i64 0), (vS none 0 0), (vS none 0 0)]) rfl rfl z59 rfl (by simp [Value.oneCell']) H76_ 7 rfl (Nat.le_of_ble_eq_true (by rfl)) ?_)
     intro w87_ S89_ H88_
     have S90_ := Same.trans S80_ S89_
     refine wpList_nil (X_then (hK86_ _ _ ?_))
     clear hK86_
     refine C_ret ?_
     refine R_any (v := (vA #[(vB false), (vI .i64 0), (vI .i64 0), (vS none 0 0), (vS none 0 0)])) (run_results1 rfl ⟨_, rfl, load_resN Try.underlying59 rfl z59 rfl (vs := [(vB false), (vI .i64 0), (vI .i64 0), (vS none 0 0), (vS none 0 0)]) (Holds.cl_cells H88_ 7 rfl 0 rfl)⟩) ?_
     have H91_ : Holds w87_ (ro R24_ :: cl tb 188 [(vQ (rt sb W)), (vI .i64 (List.length M : Int)), (vQ sb)] :: tr sb sb W :: clf sb 185 sc :: F) := (Holds.pkF H88_ [0, 0, 0, 0] 5 :)
     exact ⟨R24_, _, _, rfl, hs23_, ⟨(⟨false, 0, 0, (vS none 0 0), (vS none 0 0)⟩ : TA), W, (congrArg (fun l => vA (List.toArray l)) (lcons (congrArg vB ((by first | rfl | omega | (simp; done) | (simp; omega)) : false = ((⟨false, 0, 0, (vS none 0 0), (vS none 0 0)⟩ : TA).oK))) (lcons (congrArg (vI .i64) ((by first | rfl | omega | (simp; done) | (simp; omega)) : 0 = (⟨false, 0, 0, (vS none 0 0), (vS none 0 0)⟩ : TA).n)) (lcons (congrArg (vI .i64) ((by first | rfl | omega | (simp; done) | (simp; omega)) : 0 = (⟨false, 0, 0, (vS none 0 0), (vS none 0 0)⟩ : TA).most)) (lcons ((by first | rfl | omega | (simp; done) | (simp; omega)) : (vS none 0 0) = ((⟨false, 0, 0, (vS none 0 0), (vS none 0 0)⟩ : TA).list)) (lcons ((by first | rfl | omega | (simp; done) | (simp; omega)) : (vS none 0 0) = ((⟨false, 0, 0, (vS none 0 0), (vS none 0 0)⟩ : TA).vals)) rfl)))))), rfl, ((hM.mono hs23_)), (by rw [hX_]; exact ⟨rfl, rfl, RS.nil _ _, RS.nil _ _⟩)⟩, S90_, H91_⟩
    ·skip
     have S81_ := Same.trans S56_ S77_
     obtain ⟨e82_, e82_m, e82_1, e82_2, e82_3⟩ : ∃ e ∈ M, e.lo = n69_.kb ∧ e.hi = n69_.ke ∧ n69_.v = .iface 3 (.int .i64 e.val) := TS.hit (C := C68_) (a := a70_) (b := b71_) (by rw [he72_]; exact hM)
     have hX_ : (findX ord M (o.sn.lo ord) (o.sn.hi ord)) = ⟨true, 0, [spanOf e82_], [e82_.val]⟩ := findX_hit hun e82_m (e82_1.trans he73_.1) (e82_2.trans he73_.2)
     have hTk_ : NOk (EO ord) R n69_ ∧ TOk (EO ord) R a70_ ∧ TOk (EO ord) R b71_ := tk_unplug (C := C68_) (t := .nd n69_ a70_ b71_) (by rw [he72_]; exact hM.ok.1)
     have H83_ : Holds w75_ (ro R24_ :: cl tb 188 [(vQ (rt sb W)), (vI .i64 (List.length M : Int)), (vQ sb)] :: clf n69_.a 185 [n69_.b, n69_.e, n69_.v, n69_.mx, (vQ (rt sb a70_)), (vQ (rt sb b71_)), (vQ (pa sb C68_)), (vI .i64 n69_.c)] :: tr sb n69_.a a70_ :: tr sb n69_.a b71_ :: cx sb n69_.a C68_ :: clf sb 185 sc :: cl b48_ 190 [(Value.func (.func 86) #[] #[(vQ b13_)])] :: cl b38_ 111 [((Value.iface t126_ x128_)), ((Value.iface t227_ x229_))] :: cl b13_ 59 [(vB false), (vI .i64 0), (vI .i64 0), (vS none 0 0), (vS none 0 0)] :: cl b7_ 59 [(vB false), (vI .i64 0), (vI .i64 0), (vS none 0 0), (vS none 0 0)] :: cl b2_ 63 [(vI .i64 o.kind), (Value.string o.in__In_Begin), (Value.string o.in__In_End), (vB o.in__In_Point), (vI .i64 o.in__From), (vI .i64 o.in__Till), (vI .i64 o.val), (vI .i64 o.n), o.other, o.vals] :: F) := (H76_)
     have H84_ := H83_; rw [e82_3] at H84_
     refine sv (v := (vQ n69_.a)) (x_assign rfl) ?_
     refine wpList_nil (X_then (hK65_ _ _ ?_))
     clear hK65_
     refine C_seq (fun K92_ hK92_ => C_reg ?_)
     refine sv (v := (vQ n69_.a)) (x_move rfl) ?_
     refine sv (v := (vB true)) (by kernel_rfl) ?_
     refine wpList_nil (X_then (hK92_ _ _ ?_))
     clear hK92_
     refine C_condT rfl ?_
     refine C_seq (fun K93_ hK93_ => C_reg ?_)
     refine sv (v := (vQ b13_)) (by kernel_rfl) ?_
     refine S_list0 (T_store1 (v := (vB true)) rfl rfl z4 rfl H84_ 9 rfl (Nat.le_of_ble_eq_true (by rfl)) ?_)
     intro w94_ S96_ H95_
     have S97_ := Same.trans S81_ S96_
     refine wpList_nil (X_then (hK93_ _ _ ?_))
     clear hK93_
     refine C_reg ?_
     refine sv (v := (Value.func (.func 86) #[] #[(vQ b13_)])) (x_load1 rfl Try.underlying190 rfl ((Holds.rd H95_ 7 rfl) 0 (Value.func (.func 86) #[] #[(vQ b13_)]) rfl)) ?_
     refine sv (v := (vQ n69_.a)) (x_move rfl) ?_
     have H98_ : Holds w94_ (sl 44 5 (vS none 0 0) (List.length ([] : List SN)) (([] : List SN).flatMap SN.cells) :: ro R24_ :: cl tb 188 [(vQ (rt sb W)), (vI .i64 (List.length M : Int)), (vQ sb)] :: clf n69_.a 185 [n69_.b, n69_.e, (Value.iface 3 (vI .i64 e82_.val)), n69_.mx, (vQ (rt sb a70_)), (vQ (rt sb b71_)), (vQ (pa sb C68_)), (vI .i64 n69_.c)] :: tr sb n69_.a a70_ :: tr sb n69_.a b71_ :: cx sb n69_.a C68_ :: clf sb 185 sc :: cl b48_ 190 [(Value.func (.func 86) #[] #[(vQ b13_)])] :: cl b38_ 111 [((Value.iface t126_ x128_)), ((Value.iface t227_ x229_))] :: cl b13_ 59 [(vB true), (vI .i64 0), (vI .i64 0), (vS none 0 0), (vS none 0 0)] :: cl b7_ 59 [(vB false), (vI .i64 0), (vI .i64 0), (vS none 0 0), (vS none 0 0)] :: cl b2_ 63 [(vI .i64 o.kind), (Value.string o.in__In_Begin), (Value.string o.in__In_End), (vB o.in__In_Point), (vI .i64 o.in__From), (vI .i64 o.in__Till), (vI .i64 o.val), (vI .i64 o.n), o.other, o.vals] :: F) := Holds.add_nil H95_ 44 5
     have H99_ : Holds w94_ (sl 3 1 (vS none 0 0) (List.length ([] : List Int)) (([] : List Int).map (vI .i64)) :: sl 44 5 (vS none 0 0) (List.length ([] : List SN)) (([] : List SN).flatMap SN.cells) :: ro R24_ :: cl tb 188 [(vQ (rt sb W)), (vI .i64 (List.length M : Int)), (vQ sb)] :: clf n69_.a 185 [n69_.b, n69_.e, (Value.iface 3 (vI .i64 e82_.val)), n69_.mx, (vQ (rt sb a70_)), (vQ (rt sb b71_)), (vQ (pa sb C68_)), (vI .i64 n69_.c)] :: tr sb n69_.a a70_ :: tr sb n69_.a b71_ :: cx sb n69_.a C68_ :: clf sb 185 sc :: cl b48_ 190 [(Value.func (.func 86) #[] #[(vQ b13_)])] :: cl b38_ 111 [((Value.iface t126_ x128_)), ((Value.iface t227_ x229_))] :: cl b13_ 59 [(vB true), (vI .i64 0), (vI .i64 0), (vS none 0 0), (vS none 0 0)] :: cl b7_ 59 [(vB false), (vI .i64 0), (vI .i64 0), (vS none 0 0), (vS none 0 0)] :: cl b2_ 63 [(vI .i64 o.kind), (Value.string o.in__In_Begin), (Value.string o.in__In_End), (vB o.in__In_Point), (vI .i64 o.in__From), (vI .i64 o.in__Till), (vI .i64 o.val), (vI .i64 o.n), o.other, o.vals] :: F) := Holds.add_nil H98_ 3 1
     have H100_ := Holds.recl H99_ 11 rfl ((lcons rfl (lcons rfl (lcons rfl (lcons (rfl : (vS none 0 0) = ((vS none 0 0))) (lcons (rfl : (vS none 0 0) = ((vS none 0 0))) rfl))))) : [(vB true), (vI .i64 0), (vI .i64 0), (vS none 0 0), (vS none 0 0)] = [(vB true), (vI .i64 0), (vI .i64 0), ((vS none 0 0)), ((vS none 0 0))])
     have H104_ := ((Holds.bring (Holds.bring (Holds.bring (Holds.bring H100_ 1 rfl) 11 rfl) 5 rfl) 4 rfl) :)
     refine S_list (T_call (al := [(vQ n69_.a), (vQ b13_)]) (pre := [clf n69_.a 185 [n69_.b, n69_.e, (Value.iface 3 (vI .i64 e82_.val)), n69_.mx, (vQ (rt sb a70_)), (vQ (rt sb b71_)), (vQ (pa sb C68_)), (vI .i64 n69_.c)], cl b13_ 59 [(vB true), (vI .i64 0), (vI .i64 0), ((vS none 0 0)), ((vS none 0 0))], sl 44 5 (vS none 0 0) (List.length ([] : List SN)) (([] : List SN).flatMap SN.cells), sl 3 1 (vS none 0 0) (List.length ([] : List Int)) (([] : List Int).map (vI .i64))]) rfl rfl cb86 (tdNote R24_ ord b13_ n69_ (rt sb a70_) (rt sb b71_) (pa sb C68_) true 0 0 e82_.val (vS none 0 0) (vS none 0 0) ([] : List SN) ([] : List Int) ((hTk_.1.mono hs23_)) (by constructor <;> simp)) H104_ ?_)
     rintro v101_ p108_ w105_ ⟨lv2102_, vv2103_, rfl, rfl⟩ S107_ H106_
     have S109_ := Same.trans S97_ S107_
     refine wpList_nil (X_blkN (X_then (hK57_ _ _ ?_)))
     clear hK57_
     refine C_seq (fun K110_ hK110_ => C_reg ?_)
     refine sv (v := (vA #[(vB true), (vI .i64 0), (vI .i64 0), lv2102_, vv2103_])) (x_loadN (vs := [(vB true), (vI .i64 0), (vI .i64 0), lv2102_, vv2103_]) rfl Try.underlying59 rfl z59 rfl (Rd.cells (Holds.rd H106_ 2 rfl) 0 rfl)) ?_
     refine S_list0 (T_storeN (vs := [(vB true), (vI .i64 0), (vI .i64 0), lv2102_, vv2103_]) rfl rfl z59 rfl (List.forall_mem_cons.2 ⟨rfl, (List.forall_mem_cons.2 ⟨rfl, (List.forall_mem_cons.2 ⟨rfl, (List.forall_mem_cons.2 ⟨(Holds.sl_one H106_ 3 rfl), (List.forall_mem_cons.2 ⟨(Holds.sl_one H106_ 4 rfl), (fun _ h__ => by cases h__)⟩)⟩)⟩)⟩)⟩) H106_ 12 rfl (Nat.le_of_ble_eq_true (by rfl)) ?_)
     intro w111_ S113_ H112_
     have S114_ := Same.trans S109_ S113_
     refine wpList_nil (X_then (hK110_ _ _ ?_))
     clear hK110_
     refine C_ret ?_
     refine R_any (v := (vA #[(vB true), (vI .i64 0), (vI .i64 0), lv2102_, vv2103_])) (run_results1 rfl ⟨_, rfl, load_resN Try.underlying59 rfl z59 rfl (vs := [(vB true), (vI .i64 0), (vI .i64 0), lv2102_, vv2103_]) (Holds.cl_cells H112_ 12 rfl 0 rfl)⟩) ?_
     have H115_ : Holds w111_ (ro R24_ :: clf n69_.a 185 [n69_.b, n69_.e, (Value.iface 3 (vI .i64 e82_.val)), n69_.mx, (vQ (rt sb a70_)), (vQ (rt sb b71_)), (vQ (pa sb C68_)), (vI .i64 n69_.c)] :: cl b13_ 59 [(vB true), (vI .i64 0), (vI .i64 0), lv2102_, vv2103_] :: sl 44 5 lv2102_ (List.length (([] : List SN) ++ [ekSpan n69_.kb n69_.ke])) ((([] : List SN) ++ [ekSpan n69_.kb n69_.ke]).flatMap SN.cells) :: sl 3 1 vv2103_ (List.length (([] : List Int) ++ [e82_.val])) ((([] : List Int) ++ [e82_.val]).map (vI .i64)) :: cl tb 188 [(vQ (rt sb W)), (vI .i64 (List.length M : Int)), (vQ sb)] :: tr sb n69_.a a70_ :: tr sb n69_.a b71_ :: cx sb n69_.a C68_ :: clf sb 185 sc :: cl b48_ 190 [(Value.func (.func 86) #[] #[(vQ b13_)])] :: cl b38_ 111 [((Value.iface t126_ x128_)), ((Value.iface t227_ x229_))] :: cl b7_ 59 [(vB true), (vI .i64 0), (vI .i64 0), lv2102_, vv2103_] :: cl b2_ 63 [(vI .i64 o.kind), (Value.string o.in__In_Begin), (Value.string o.in__In_End), (vB o.in__In_Point), (vI .i64 o.in__From), (vI .i64 o.in__Till), (vI .i64 o.val), (vI .i64 o.n), o.other, o.vals] :: F) := (H112_)
     have H116_ := H115_; rw [← e82_3] at H116_
     have H117_ := ((Holds.bring (Holds.bring (Holds.bring H116_ 7 rfl) 7 rfl) 3 rfl) :)
     have H118_ := Holds.nd_tr (n := n69_) (a := a70_) (b := b71_) H117_
     have H119_ : Holds w111_ (tr sb (pa sb C68_) (Tr.nd n69_ a70_ b71_) :: ro R24_ :: cl b13_ 59 [(vB true), (vI .i64 0), (vI .i64 0), lv2102_, vv2103_] :: sl 44 5 lv2102_ (List.length (([] : List SN) ++ [ekSpan n69_.kb n69_.ke])) ((([] : List SN) ++ [ekSpan n69_.kb n69_.ke]).flatMap SN.cells) :: sl 3 1 vv2103_ (List.length (([] : List Int) ++ [e82_.val])) ((([] : List Int) ++ [e82_.val]).map (vI .i64)) :: cl tb 188 [(vQ (rt sb W)), (vI .i64 (List.length M : Int)), (vQ sb)] :: cx sb (rt sb (Tr.nd n69_ a70_ b71_)) C68_ :: clf sb 185 sc :: cl b48_ 190 [(Value.func (.func 86) #[] #[(vQ b13_)])] :: cl b38_ 111 [((Value.iface t126_ x128_)), ((Value.iface t227_ x229_))] :: cl b7_ 59 [(vB true), (vI .i64 0), (vI .i64 0), lv2102_, vv2103_] :: cl b2_ 63 [(vI .i64 o.kind), (Value.string o.in__In_Begin), (Value.string o.in__In_End), (vB o.in__In_Point), (vI .i64 o.in__From), (vI .i64 o.in__Till), (vI .i64 o.val), (vI .i64 o.n), o.other, o.vals] :: F) := (H118_)
     have H120_ := ((Holds.bring (Holds.bring H119_ 6 rfl) 1 rfl) :)
     have H121_ := Holds.plug_in (C := C68_) (t := (Tr.nd n69_ a70_ b71_)) H120_
     have H122_ := H121_; rw [he72_] at H122_
     have H123_ : Holds w111_ (tr sb sb W :: ro R24_ :: cl b13_ 59 [(vB true), (vI .i64 0), (vI .i64 0), lv2102_, vv2103_] :: sl 44 5 lv2102_ (List.length (([] : List SN) ++ [ekSpan n69_.kb n69_.ke])) ((([] : List SN) ++ [ekSpan n69_.kb n69_.ke]).flatMap SN.cells) :: sl 3 1 vv2103_ (List.length (([] : List Int) ++ [e82_.val])) ((([] : List Int) ++ [e82_.val]).map (vI .i64)) :: cl tb 188 [(vQ (rt sb W)), (vI .i64 (List.length M : Int)), (vQ sb)] :: clf sb 185 sc :: cl b48_ 190 [(Value.func (.func 86) #[] #[(vQ b13_)])] :: cl b38_ 111 [((Value.iface t126_ x128_)), ((Value.iface t227_ x229_))] :: cl b7_ 59 [(vB true), (vI .i64 0), (vI .i64 0), lv2102_, vv2103_] :: cl b2_ 63 [(vI .i64 o.kind), (Value.string o.in__In_Begin), (Value.string o.in__In_End), (vB o.in__In_Point), (vI .i64 o.in__From), (vI .i64 o.in__Till), (vI .i64 o.val), (vI .i64 o.n), o.other, o.vals] :: F) := (H122_)
     have H124_ := Holds.resl H123_ 3 rfl (by unfold spanOf; rw [e82_1, e82_2]; rfl : (([] : List SN) ++ [ekSpan n69_.kb n69_.ke]).flatMap SN.cells = [spanOf e82_].flatMap SN.cells) (rfl : (List.length (([] : List SN) ++ [ekSpan n69_.kb n69_.ke])) = (List.length [spanOf e82_]))
     have H125_ := Holds.resl H124_ 4 rfl (rfl : (([] : List Int) ++ [e82_.val]).map (vI .i64) = [e82_.val].map (vI .i64)) (rfl : (List.length (([] : List Int) ++ [e82_.val])) = (List.length [e82_.val]))
     have H126_ := ((Holds.bring (Holds.bring H125_ 3 rfl) 2 rfl) :)
     obtain ⟨R127_, hs128_, ⟨R129_, ha130_, hs131_⟩, H132_⟩ := Holds.gift H126_
     have hz_R_R127_ := Sub.trans' hs23_ hs128_
     have hr133_ : RS R127_ 5 lv2102_ (List.length [spanOf e82_]) ([spanOf e82_].flatMap SN.cells) := (sl_RS ha130_ (Sub.rfl' _)).mono hs131_
     have H134_ := ((Holds.bring (Holds.bring H132_ 3 rfl) 1 rfl) :)
     obtain ⟨R135_, hs136_, ⟨R137_, ha138_, hs139_⟩, H140_⟩ := Holds.gift H134_
     have hz_R_R135_ := Sub.trans' hz_R_R127_ hs136_
     have hz_R24__R135_ := Sub.trans' hs128_ hs136_
     have hr141_ : RS R135_ 1 vv2103_ (List.length [e82_.val]) ([e82_.val].map (vI .i64)) := (sl_RS ha138_ (Sub.rfl' _)).mono hs139_
     have H142_ : Holds w111_ (ro R135_ :: cl tb 188 [(vQ (rt sb W)), (vI .i64 (List.length M : Int)), (vQ sb)] :: tr sb sb W :: clf sb 185 sc :: F) := (Holds.pkF H140_ [0, 2, 0, 1] 5 :)
     exact ⟨R135_, _, _, rfl, hz_R_R135_, ⟨(⟨true, 0, 0, lv2102_, vv2103_⟩ : TA), W, (congrArg (fun l => vA (List.toArray l)) (lcons (congrArg vB ((by first | rfl | omega | (simp; done) | (simp; omega)) : true = ((⟨true, 0, 0, lv2102_, vv2103_⟩ : TA).oK))) (lcons (congrArg (vI .i64) ((by first | rfl | omega | (simp; done) | (simp; omega)) : 0 = (⟨true, 0, 0, lv2102_, vv2103_⟩ : TA).n)) (lcons (congrArg (vI .i64) ((by first | rfl | omega | (simp; done) | (simp; omega)) : 0 = (⟨true, 0, 0, lv2102_, vv2103_⟩ : TA).most)) (lcons ((by first | rfl | omega | (simp; done) | (simp; omega)) : lv2102_ = ((⟨true, 0, 0, lv2102_, vv2103_⟩ : TA).list)) (lcons ((by first | rfl | omega | (simp; done) | (simp; omega)) : vv2103_ = ((⟨true, 0, 0, lv2102_, vv2103_⟩ : TA).vals)) rfl)))))), rfl, ((hM.mono hz_R_R135_)), (by rw [hX_]; exact ⟨rfl, rfl, (RS.mono hr133_ hs136_), hr141_⟩)⟩, S114_, H142_⟩
   ·have c64_fp : ¬ (o.kind = 3) := of_decide_eq_false c64_f
    omega
end Go.Proofs.Ytlnihndjepjagaa
set_option linter.unusedVariables false
set_option linter.unusedSimpArgs false
namespace Go.Proofs.Ytlnihndjepjagaa
open Go Go.RowKit Gw
open Go.Value renaming int → vI, bool → vB, slice → vS, pointer → vP, agg → vA, tuple → vT

def ieL (ord : Int) (OL : List SN) (OV : List Int) : List IE := (OL.zip OV).map fun p => ⟨p.1.lo ord, p.1.hi ord, p.2⟩
theorem take_snoc {α : Type} {l : List α} {k : Nat} {x : α} (h : l[k]? = some x) : l.take (k + 1) = l.take k ++ [x] := by rw [List.take_add_one, h]; rfl
theorem insK_mem {ord : Int} {z e : IE} : ∀ {M : List IE}, e ∈ insK ord z M ↔ e = z ∨ e ∈ M
  | [] => by simp [insK]
  | x :: M => by
    rw [insK]
    split
    · simp
    · rw [List.mem_cons, insK_mem, List.mem_cons]
      constructor
      · rintro (h | h | h)
        · exact .inr (.inl h)
        · exact .inl h
        · exact .inr (.inr h)
      · rintro (h | h | h)
        · exact .inr (.inl h)
        · exact .inl h
        · exact .inr (.inr h)
end Go.Proofs.Ytlnihndjepjagaa
set_option linter.unusedVariables false
set_option linter.unusedSimpArgs false
namespace Go.Proofs.Ytlnihndjepjagaa
open Go Go.RowKit Gw
open Go.Value renaming int → vI, bool → vB, slice → vS, pointer → vP, agg → vA, tuple → vT

/-- An operation, with its lists. -/
structure TX where
  q : TO
  ol : List SN
  ov : List Int
def TX.cells (x : TX) : List Value := x.q.cells
theorem TX.len (x : TX) : x.cells.length = 10 := rfl
def tdoM (ord : Int) (M : List IE) (x : TX) : List IE :=
  if x.q.kind = 1 then insK ord ⟨x.q.sn.lo ord, x.q.sn.hi ord, x.q.val⟩ M
  else if x.q.kind = 10 then insAll ord M (List.filter (meetK ord (x.q.sn.lo ord) (x.q.sn.hi ord)) (insAll ord [] (ieL ord x.ol x.ov))) else M
def tdoX (ord : Int) (M : List IE) (x : TX) : TAx :=
  if x.q.kind = 3 then findX ord M (x.q.sn.lo ord) (x.q.sn.hi ord)
  else if x.q.kind = 5 then ⟨false, 0, (visS x.q.n (M.filter (meetK ord (x.q.sn.lo ord) (x.q.sn.hi ord)))).map spanOf, (visS x.q.n (M.filter (meetK ord (x.q.sn.lo ord) (x.q.sn.hi ord)))).map IE.val⟩
  else if x.q.kind = 8 then ⟨false, M.length, [], []⟩ else ⟨false, 0, [], []⟩
structure OpOk (ord : Int) (R : HP) (M : List IE) (x : TX) : Prop where
  k : x.q.kind = 1 ∨ x.q.kind = 3
  ok : SnOk ord x.q.sn
  len : M.length ≤ 10000000
  find : x.q.kind = 3 → UniqK M
  vis : x.q.kind = 5 → PrpK ord M ∧ ecm ord (x.q.sn.lo ord) (x.q.sn.hi ord) < 0
  uni : x.q.kind = 10 → RS R 5 x.q.other (List.length x.ol) (x.ol.flatMap SN.cells) ∧ RS R 1 x.q.vals (List.length x.ov) (x.ov.map (vI .i64)) ∧ (x.ol.length = x.ov.length ∧ x.ol.length ≤ 1000) ∧ (∀ s ∈ x.ol, SnOk ord s) ∧ (∀ s ∈ x.ol, ecm ord (s.lo ord) (s.hi ord) < 0) ∧ ecm ord (x.q.sn.lo ord) (x.q.sn.hi ord) < 0
theorem OpOk.mono {ord : Int} {R R' : HP} (s : Sub R R') {M : List IE} {x : TX} (h : OpOk ord R M x) : OpOk ord R' M x := ⟨h.k, h.ok, h.len, h.find, h.vis, fun e => ⟨(h.uni e).1.mono s, (h.uni e).2.1.mono s, (h.uni e).2.2⟩⟩
def tdoAll (ord : Int) (l : List TX) : List IE := l.foldl (tdoM ord) []
theorem tdoAll_snoc {ord : Int} {l : List TX} {k : Nat} {x : TX} (h : l[k]? = some x) : tdoAll ord (l.take (k + 1)) = tdoM ord (tdoAll ord (l.take k)) x := by
  rw [take_snoc h]
  unfold tdoAll
  rw [List.foldl_append]; rfl
/-- What is answered to the first ones. -/
def AnsTo (ord : Int) (R : HP) (l : List TX) (A : List TA) : Prop := ∀ i a x, A[i]? = some a → l[i]? = some x → AnsAt R a (tdoX ord (tdoAll ord (l.take i)) x)
theorem AnsTo.mono {ord : Int} {R R' : HP} (s : Sub R R') {l : List TX} {A : List TA} (h : AnsTo ord R l A) : AnsTo ord R' l A := fun i a x h1 h2 => (h i a x h1 h2).mono s
theorem AnsTo.snoc {ord : Int} {R R' : HP} {l : List TX} {A : List TA} {x : TX} {a : TA} (s : Sub R R') (h : AnsTo ord R l A) (hx : l[A.length]? = some x) (ha : AnsAt R' a (tdoX ord (tdoAll ord (l.take A.length)) x)) : AnsTo ord R' l (A ++ [a]) := by
  intro i b y h1 h2
  by_cases hi : i < A.length
  · rw [List.getElem?_append_left hi] at h1
    exact (h i b y h1 h2).mono s
  · have hi2 : i = A.length := by
      have := (List.getElem?_eq_some_iff.1 h1).1
      rw [List.length_append] at this; simp at this; omega
    subst hi2
    rw [List.getElem?_append_right (Nat.le_refl _), Nat.sub_self] at h1
    have : a = b := by simpa using h1
    subst this
    have : x = y := by rw [hx] at h2; exact Option.some.inj h2
    subst this
    exact ha


theorem tdo (R : HP) (ord : Int) (tb sb : Nat) (sc : List Value) (W : Tr EK) (M : List IE) (x : TX) (hM : TS ord R W M) (hx : OpOk ord R M x) :
    TriG Try.prog 63 #[(Value.iface 186 (vQ tb)), (vI .i64 ord), (vA #[(vI .i64 x.q.kind), (Value.string x.q.in__In_Begin), (Value.string x.q.in__In_End), (vB x.q.in__In_Point), (vI .i64 x.q.in__From), (vI .i64 x.q.in__Till), (vI .i64 x.q.val), (vI .i64 x.q.n), x.q.other, x.q.vals])] R [cl tb 188 [(vQ (rt sb W)), (vI .i64 (List.length M : Int)), (vQ sb)], tr sb sb W, clf sb 185 sc] (fun R' v__ post__ => ∃ (a : TA) (W2 : Tr EK), v__ = (vA #[(vB a.oK), (vI .i64 a.n), (vI .i64 a.most), a.list, a.vals]) ∧ post__ = [cl tb 188 [(vQ (rt sb W2)), (vI .i64 (List.length (tdoM ord M x) : Int)), (vQ sb)], tr sb sb W2, clf sb 185 sc] ∧ (TS ord R' W2 (tdoM ord M x)) ∧ (AnsAt R' a (tdoX ord M x))) := by
  rcases hx.k with h | h
  · rw [show tdoM ord M x = insK ord ⟨x.q.sn.lo ord, x.q.sn.hi ord, x.q.val⟩ M from if_pos h, show tdoX ord M x = ⟨false, 0, [], []⟩ by unfold tdoX; rw [if_neg (by omega), if_neg (by omega), if_neg (by omega)]]
    exact tdoIns R ord tb sb sc W M x.q hM hx.ok hx.len h
  · rw [show tdoM ord M x = M by unfold tdoM; rw [if_neg (by omega), if_neg (by omega)], show tdoX ord M x = findX ord M (x.q.sn.lo ord) (x.q.sn.hi ord) from if_pos h]
    exact tdoFind R ord tb sb sc W M x.q hM hx.ok hx.len (hx.find h) h

set_option maxHeartbeats 16000000 in
theorem tdTree (R : HP) (ord : Int) (v : Value) (l : List TX) (hv : RS R 10 v (List.length l) (l.flatMap TX.cells)) (hn : l.length ≤ 100000) (hok : ∀ k x, l[k]? = some x → OpOk ord R (tdoAll ord (l.take k)) x) :
    TriG Try.prog 35 #[(vI .i64 ord), v] R [] (fun R' v__ post__ => ∃ (v' : Value) (A : List TA), v__ = v' ∧ post__ = [] ∧ (RS R' 5 v' (List.length A) (A.flatMap TA.cells)) ∧ (A.length = l.length) ∧ (AnsTo ord R' l A)) := by
 refine TriG.into (n := 26) (al := [(vI .i64 ord), v]) Try.func35 rfl Try.ntmps35 rfl rfl fun w F H => ?_
 refine C_seq (fun K1_ hK1_ => C_reg ?_)
 refine sv (v := (vS none 0 0)) (x_assign rfl) ?_
 refine wpList_nil (X_then (hK1_ _ _ ?_))
 clear hK1_
 refine C_seq (fun K2_ hK2_ => C_reg ?_)
 refine S_list (T_callW (al := []) rfl rfl cb62 (Calls.into (n := 10) (al := []) Try.func62 rfl Try.ntmps62 rfl rfl ?_))
 refine C_seq (fun K3_ hK3_ => C_reg ?_)
 refine sv (v := (Value.nilIface)) (x_assign rfl) ?_
 refine wpList_nil (X_then (hK3_ _ _ ?_))
 clear hK3_
 refine C_seq (fun K4_ hK4_ => C_reg ?_)
 refine sv (v := (vA #[(Value.nilIface), (Value.nilIface), (Value.nilIface)])) (by kernel_rfl) ?_
 refine sv (v := (vA #[(Value.nilIface), (Value.nilIface), (Value.nilIface), (Value.nilIface), (vP none), (vP none), (vP none), (vI .i64 0)])) (by kernel_rfl) ?_
 refine S_list (T_boxf (v := (vA #[(Value.nilIface), (Value.nilIface), (Value.nilIface), (Value.nilIface), (vP none), (vP none), (vP none), (vI .i64 0)])) rfl H ?_)
 intro b5_ w6_ S8_ H7_
 have S9_ := Same.trans (Same.refl w) S8_
 refine sv (v := (vQ b5_)) (x_assign rfl) ?_
 refine wpList_nil (X_then (hK4_ _ _ ?_))
 clear hK4_
 refine C_seq (fun K10_ hK10_ => C_reg ?_)
 refine sv (v := (vQ b5_)) (x_move rfl) ?_
 refine sv (v := (vQ b5_)) (x_move rfl) ?_
 refine sv (v := (vA #[(vQ b5_), (vI .i64 0), (vQ b5_)])) (by kernel_rfl) ?_
 refine S_list (T_box (v := (vA #[(vQ b5_), (vI .i64 0), (vQ b5_)])) rfl H7_ ?_)
 intro b11_ w12_ S14_ H13_
 have S15_ := Same.trans S9_ S14_
 refine sv (v := (Value.iface 186 (vQ b11_))) (by kernel_rfl) ?_
 refine sv (v := (Value.iface 186 (vQ b11_))) (x_assign rfl) ?_
 refine wpList_nil (X_then (hK10_ _ _ ?_))
 clear hK10_
 refine C_ret ?_
 refine R_any (v := (Value.iface 186 (vQ b11_))) (run_results1 rfl rfl) ⟨_, rfl, ?_⟩
 refine sv (v := (Value.iface 186 (vQ b11_))) (x_assign rfl) ?_
 refine wpList_nil (X_then (hK2_ _ _ ?_))
 clear hK2_
 refine C_seq (fun K16_ hK16_ => C_reg ?_)
 refine sv (v := (vS none 0 0)) (x_assign rfl) ?_
 refine wpList_nil (X_then (hK16_ _ _ ?_))
 clear hK16_
 refine C_seq (fun K17_ hK17_ => ?_)
 refine C_seq (fun K18_ hK18_ => C_reg ?_)
 refine sv (v := (vI .i64 0)) (x_assign rfl) ?_
 refine wpList_nil (X_then (hK18_ _ _ ?_))
 clear hK18_
 refine C_block ?_
 have H19_ : Holds w12_ (tr b5_ b5_ (Tr.lf : Tr EK) :: cl b11_ 188 [(vQ b5_), (vI .i64 0), (vQ b5_)] :: clf b5_ 185 [(Value.nilIface), (Value.nilIface), (Value.nilIface), (Value.nilIface), (vP none), (vP none), (vP none), (vI .i64 0)] :: ro R :: F) := Holds.lf_tr H13_
 have H20_ : Holds w12_ (sl 59 5 (vS none 0 0) (List.length ([] : List TA)) (([] : List TA).flatMap TA.cells) :: tr b5_ b5_ (Tr.lf : Tr EK) :: cl b11_ 188 [(vQ b5_), (vI .i64 0), (vQ b5_)] :: clf b5_ 185 [(Value.nilIface), (Value.nilIface), (Value.nilIface), (Value.nilIface), (vP none), (vP none), (vP none), (vI .i64 0)] :: ro R :: F) := Holds.add_nil H19_ 59 5
 have H21_ := Holds.recl H20_ 2 rfl ((lcons ((by first | rfl | omega | (simp; done) | (simp; omega)) : (vQ b5_) = (vQ (rt b5_ (Tr.lf : Tr EK)))) (lcons (congrArg (vI .i64) ((by simp [tdoAll]) : 0 = (List.length (tdoAll ord (List.take 0 l)) : Int))) rfl)) : [(vQ b5_), (vI .i64 0), (vQ b5_)] = [(vQ (rt b5_ (Tr.lf : Tr EK))), (vI .i64 (List.length (tdoAll ord (List.take 0 l)) : Int)), (vQ b5_)])
 refine C_loop (γ := HP × Nat × Value × (Tr EK) × (List TA)) (fun x__ a__ w1__ => match x__ with | ⟨R1, k, cv, W, A⟩ => ∃ h : Env, a__ = mkA 26 (upd (upd (upd (upd (upd (upd h 0 (vI .i64 ord)) 1 v) 4 (vS none 0 0)) 5 (Value.iface 186 (vQ b11_))) 6 cv) 7 (vI .i64 (k : Int))) [] ∧ Holds w1__ (sl 59 5 cv (List.length A) (A.flatMap TA.cells) :: tr b5_ b5_ W :: cl b11_ 188 [(vQ (rt b5_ W)), (vI .i64 (List.length (tdoAll ord (List.take k l)) : Int)), (vQ b5_)] :: clf b5_ 185 [(Value.nilIface), (Value.nilIface), (Value.nilIface), (Value.nilIface), (vP none), (vP none), (vP none), (vI .i64 0)] :: ro R1 :: F) ∧ Same w w1__ ∧ (Sub R R1) ∧ (k ≤ l.length) ∧ (A.length = k) ∧ (TS ord R1 W (tdoAll ord (List.take k l))) ∧ (AnsTo ord R1 l A)) (fun x__ => match x__ with | ⟨R1, k, cv, W, A⟩ => l.length - k) (⟨R, 0, (vS none 0 0), (Tr.lf : Tr EK), ([] : List TA)⟩) ⟨_, congrArg (fun e => mkA 26 e []) (ch (ch (ch (ch (ch (ch rfl rfl) rfl) rfl) rfl) (rfl : (vS none 0 0) = ((vS none 0 0)))) (congrArg (vI .i64) ((by first | rfl | omega | (simp; done) | (simp; omega)) : 0 = (0 : Int)))), H21_, S15_, (Sub.rfl' _), (by first | assumption | omega | exact rfl), (rfl), (by rw [List.take_zero]; exact TS.nil), (fun i a x h => by simp at h)⟩ ?_
 rintro ⟨R1, k, cv, W, A⟩ _ w22_ ⟨h, rfl, H23_, S24_, hsR1, hkk, hAl, hTS, hAn⟩
 refine C_seq (fun K25_ hK25_ => ?_)
 refine C_seq (fun K26_ hK26_ => C_reg ?_)
 refine sv (v := (vI .i64 (k : Int))) (x_move rfl) ?_
 refine sv (v := v) (x_move rfl) ?_
 refine sv (v := (vI .i64 ((List.length l) : Int))) (x_lenRS rfl (RS.mono hv hsR1) Try.underlying66) ?_
 refine sv (v := (vB (decide ((k : Int) < ((List.length l) : Int))))) (x_bin rfl rfl rfl) ?_
 refine wpList_nil (X_then (hK26_ _ _ ?_))
 clear hK26_
 refine C_cond (b := decide ((k : Int) < ((List.length l) : Int))) rfl (fun c27_t => ?_) (fun c27_f => ?_)
 ·have c27_tp : (k : Int) < ((List.length l) : Int) := of_decide_eq_true c27_t
  refine C_skip (X_then (hK25_ _ _ ?_))
  clear hK25_
  refine C_seq (fun K28_ hK28_ => ?_)
  refine C_block ?_
  refine C_reg ?_
  refine sv (v := cv) (x_move rfl) ?_
  refine sv (v := (Value.iface 186 (vQ b11_))) (x_move rfl) ?_
  refine sv (v := (vI .i64 ord)) (x_move rfl) ?_
  refine sv (v := v) (x_move rfl) ?_
  refine sv (v := (vI .i64 (k : Int))) (x_move rfl) ?_
  obtain ⟨x29_, hx30_, hm31_⟩ := elem_at l k (by omega)
  refine sv (v := (vP (some ⟨(sb v), so v + (k * 10 + 0), none⟩))) (x_idxRS (v := v) rfl (RS.mono hv hsR1) rfl Try.underlying66 z63 (by omega) (by omega) (by omega : _ = k) rfl) ?_
  refine sv (v := (vA #[(vI .i64 x29_.q.kind), (Value.string x29_.q.in__In_Begin), (Value.string x29_.q.in__In_End), (vB x29_.q.in__In_Point), (vI .i64 x29_.q.in__From), (vI .i64 x29_.q.in__Till), (vI .i64 x29_.q.val), (vI .i64 x29_.q.n), x29_.q.other, x29_.q.vals])) (x_loadN (vs := [(vI .i64 x29_.q.kind), (Value.string x29_.q.in__In_Begin), (Value.string x29_.q.in__In_End), (vB x29_.q.in__In_Point), (vI .i64 x29_.q.in__From), (vI .i64 x29_.q.in__Till), (vI .i64 x29_.q.val), (vI .i64 x29_.q.n), x29_.q.other, x29_.q.vals]) rfl Try.underlying63 rfl z63 rfl (RC.cells (RS.rc (RS.mono hv hsR1)) (Holds.ro_at H23_ 4 rfl) (k * 10 + 0) (fm_cells TX.len hx30_ (i := 0) rfl))) ?_
  have H39_ := ((Holds.bring (Holds.bring (Holds.bring (Holds.bring H23_ 3 rfl) 2 rfl) 3 rfl) 4 rfl) :)
  refine S_list (T_callG (al := [(Value.iface 186 (vQ b11_)), (vI .i64 ord), (vA #[(vI .i64 x29_.q.kind), (Value.string x29_.q.in__In_Begin), (Value.string x29_.q.in__In_End), (vB x29_.q.in__In_Point), (vI .i64 x29_.q.in__From), (vI .i64 x29_.q.in__Till), (vI .i64 x29_.q.val), (vI .i64 x29_.q.n), x29_.q.other, x29_.q.vals])]) (pre := [cl b11_ 188 [(vQ (rt b5_ W)), (vI .i64 (List.length (tdoAll ord (List.take k l)) : Int)), (vQ b5_)], tr b5_ b5_ W, clf b5_ 185 [(Value.nilIface), (Value.nilIface), (Value.nilIface), (Value.nilIface), (vP none), (vP none), (vP none), (vI .i64 0)]]) rfl rfl cb63 (tdo R1 ord b11_ b5_ [(Value.nilIface), (Value.nilIface), (Value.nilIface), (Value.nilIface), (vP none), (vP none), (vP none), (vI .i64 0)] W (tdoAll ord (List.take k l)) x29_ (hTS) ((((hok k x29_ hx30_).mono hsR1)))) H39_ ?_)
  rintro R33_ v34_ p43_ w40_ hs32_ ⟨a35_, W236_, rfl, rfl, he37_, he38_⟩ S42_ H41_
  have S44_ := Same.trans S24_ S42_
  have hz_R_R33_ := Sub.trans' hsR1 hs32_
  refine S_list (T_new (obj := .cells #[(vB a35_.oK), (vI .i64 a35_.n), (vI .i64 a35_.most), a35_.list, a35_.vals] 59) (f := fun b__ => .slice (some ⟨b__, 0, none⟩) 1 1) (A := fun b__ => cl b__ 59 [(vB a35_.oK), (vI .i64 a35_.n), (vI .i64 a35_.most), a35_.list, a35_.vals]) (by kernel_rfl) (fun l h => h.alloc _ _) H41_ ?_)
  intro b45_ w46_ S48_ H47_
  have S49_ := Same.trans S44_ S48_
  refine S_list (T_append rfl rfl Try.underlying71 z59 rfl (by decide) H47_ 5 rfl (Holds.cl_src H47_ 0 rfl Try.underlying71 (List.forall_mem_cons.2 ⟨rfl, (List.forall_mem_cons.2 ⟨rfl, (List.forall_mem_cons.2 ⟨rfl, (List.forall_mem_cons.2 ⟨(RS.one (he38_.2.2.1)), (List.forall_mem_cons.2 ⟨(RS.one (he38_.2.2.2)), (fun _ h__ => by cases h__)⟩)⟩)⟩)⟩)⟩) rfl) (by first | omega | (simp only [List.length_append, List.length_cons, List.length_nil]; omega)) ?_)
  intro v50_ w51_ S53_ H52_
  have S54_ := Same.trans S49_ S53_
  refine sv (v := v50_) (x_assign rfl) ?_
  refine wpList_nil (X_blkN (X_then (hK28_ _ _ ?_)))
  clear hK28_
  refine C_reg ?_
  refine sv (v := (vI .i64 (k : Int))) (x_move rfl) ?_
  refine sv (v := (vI .i64 ((k : Int) + 1))) (x_bin rfl rfl (ib_add (IntWalk.i64_in _ (by omega)))) ?_
  refine sv (v := (vI .i64 ((k : Int) + 1))) (x_assign rfl) ?_
  refine wpList_nil (X_then ?_)
  have H55_ := Holds.resl H52_ 5 rfl (by simp [TA.cells, List.flatMap_append] : (A.flatMap TA.cells) ++ [(vB a35_.oK), (vI .i64 a35_.n), (vI .i64 a35_.most), a35_.list, a35_.vals] = (A ++ [a35_]).flatMap TA.cells) (by simp : (List.length A) + 1 = (List.length (A ++ [a35_])))
  have H56_ := Holds.recl H55_ 2 rfl ((lcons rfl (lcons (congrArg (vI .i64) ((by rw [tdoAll_snoc hx30_]) : (List.length (tdoM ord (tdoAll ord (List.take k l)) x29_) : Int) = (List.length (tdoAll ord (List.take (k + 1) l)) : Int))) rfl)) : [(vQ (rt b5_ W236_)), (vI .i64 (List.length (tdoM ord (tdoAll ord (List.take k l)) x29_) : Int)), (vQ b5_)] = [(vQ (rt b5_ W236_)), (vI .i64 (List.length (tdoAll ord (List.take (k + 1) l)) : Int)), (vQ b5_)])
  have H57_ : Holds w51_ (sl 59 5 v50_ (List.length (A ++ [a35_])) ((A ++ [a35_]).flatMap TA.cells) :: tr b5_ b5_ W236_ :: cl b11_ 188 [(vQ (rt b5_ W236_)), (vI .i64 (List.length (tdoAll ord (List.take (k + 1) l)) : Int)), (vQ b5_)] :: clf b5_ 185 [(Value.nilIface), (Value.nilIface), (Value.nilIface), (Value.nilIface), (vP none), (vP none), (vP none), (vI .i64 0)] :: ro R33_ :: F) := (Holds.pkF H56_ [5, 3, 2, 2, 1] 1 :)
  exact ⟨⟨R33_, k + 1, v50_, W236_, (A ++ [a35_])⟩, ⟨_, congrArg (fun e => mkA 26 e []) (ch (ch (ch (ch (ch (ch rfl rfl) rfl) rfl) rfl) rfl) (congrArg (vI .i64) ((by first | rfl | omega | (simp; done) | (simp; omega)) : (k : Int) + 1 = ((k + 1 : Nat) : Int)))), H57_, S54_, (hz_R_R33_), (by first | assumption | omega | exact rfl), (by rw [List.length_append, hAl]; rfl), (by rw [tdoAll_snoc hx30_]; exact he37_), (AnsTo.snoc hs32_ hAn (by rw [hAl]; exact hx30_) (by rw [hAl]; exact he38_))⟩, by first | omega | (dsimp only; omega) | (simp; omega)⟩
 ·have c27_fp : ¬ ((k : Int) < ((List.length l) : Int)) := of_decide_eq_false c27_f
  refine C_exit (X_thenX (X_thenX (X_blkHit ?_)))
  refine (X_then (hK17_ _ _ ?_))
  clear hK17_
  refine C_seq (fun K58_ hK58_ => C_reg ?_)
  refine sv (v := cv) (x_move rfl) ?_
  refine sv (v := cv) (x_assign rfl) ?_
  refine wpList_nil (X_then (hK58_ _ _ ?_))
  clear hK58_
  refine C_ret ?_
  refine R_any (v := cv) (run_results1 rfl rfl) ?_
  have H59_ := ((Holds.bring H23_ 4 rfl) :)
  obtain ⟨R60_, hs61_, ⟨R62_, ha63_, hs64_⟩, H65_⟩ := Holds.gift H59_
  have hz_R_R60_ := Sub.trans' hsR1 hs61_
  have hr66_ : RS R60_ 5 cv (List.length A) (A.flatMap TA.cells) := (sl_RS ha63_ (Sub.rfl' _)).mono hs64_
  have H67_ : Holds w22_ (ro R60_ :: F) := (Holds.pkF H65_ [0] 3 :)
  exact ⟨R60_, _, _, rfl, hz_R_R60_, ⟨cv, A, rfl, rfl, (hr66_), (by omega), (hAn.mono hs61_)⟩, S24_, H67_⟩
end Go.Proofs.Ytlnihndjepjagaa
set_option linter.unusedVariables false
set_option linter.unusedSimpArgs false
namespace Go.Proofs.Ytlnihndjepjagaa
open Go Go.RowKit Gw
open Go.Value renaming int → vI, bool → vB, slice → vS, pointer → vP, agg → vA, tuple → vT

structure PN where
  in__In_Begin : ByteArray
  in__In_End : ByteArray
  in__In_Point : Bool
  in__From : Int
  in__Till : Int
  val : Int
def PN.cells (x : PN) : List Value := [(Value.string x.in__In_Begin), (Value.string x.in__In_End), (vB x.in__In_Point), (vI .i64 x.in__From), (vI .i64 x.in__Till), (vI .i64 x.val)]
theorem PN.len (x : PN) : x.cells.length = 6 := rfl

def PN.sn (x : PN) : SN := ⟨x.in__In_Begin, x.in__In_End, x.in__In_Point, x.in__From, x.in__Till⟩
def PN.of (s : SN) (v : Int) : PN := ⟨s.plain.in__Begin, s.plain.in__End, s.plain.in__Point, s.plain.from_, s.plain.till, v⟩
/-- A piece as what stands in a tree. -/
def PN.ie (ord : Int) (x : PN) : IE := ⟨x.sn.lo ord, x.sn.hi ord, x.val⟩
theorem plain_plain (s : SN) : s.plain.plain = s.plain := by
  unfold SN.plain
  by_cases h : s.in__Point = true
  · simp [h]
  · simp [h]
theorem of_sn (s : SN) (v : Int) : (PN.of s v).sn = s.plain := by unfold PN.of PN.sn; cases s.plain; rfl
theorem of_ie {ord : Int} (s : SN) (v : Int) : (PN.of s v).ie ord = ⟨s.lo ord, s.hi ord, v⟩ := by
  unfold PN.ie SN.lo SN.hi
  rw [of_sn, plain_plain]; rfl
def putP (ord : Int) (s : SN) (v : Int) : List PN → List PN
  | [] => [PN.of s v]
  | x :: P => if sAhead ord s x.sn = true then PN.of s v :: x :: P else x :: putP ord s v P
theorem putP_split {ord : Int} {s : SN} {v : Int} : ∀ {P1 P2 : List PN}, (∀ x ∈ P1, sAhead ord s x.sn = false) → (∀ x, P2.head? = some x → sAhead ord s x.sn = true) → putP ord s v (P1 ++ P2) = P1 ++ PN.of s v :: P2
  | [], [], _, _ => rfl
  | [], y :: P2, _, h => by rw [List.nil_append, putP, if_pos (h y rfl)]; rfl
  | x :: P1, P2, h1, h2 => by rw [List.cons_append, putP, if_neg (by rw [h1 x (by simp)]; decide), putP_split (fun y hy => h1 y (by simp [hy])) h2]; rfl
theorem putP_at {ord : Int} {s : SN} {v : Int} {P : List PN} {k : Nat} (h1 : ∀ x ∈ P.take k, sAhead ord s x.sn = false) (h2 : k = P.length ∨ ∃ x, P[k]? = some x ∧ sAhead ord s x.sn = true) : P.take k ++ PN.of s v :: P.drop k = putP ord s v P := by
  have := putP_split (v := v) (P1 := P.take k) (P2 := P.drop k) h1 (fun x hx => by
    rw [List.head?_drop] at hx
    rcases h2 with h2 | ⟨y, hy, hs⟩
    · rw [h2, List.getElem?_eq_none (Nat.le_refl _)] at hx; cases hx
    · rw [hy] at hx; cases hx; exact hs)
  rw [List.take_append_drop] at this
  exact this.symm
theorem putP_ie {ord : Int} {s : SN} {v : Int} : ∀ P : List PN, (putP ord s v P).map (PN.ie ord) = insK ord ⟨s.lo ord, s.hi ord, v⟩ (P.map (PN.ie ord))
  | [] => by show [(PN.of s v).ie ord] = _; rw [of_ie]; rfl
  | x :: P => by
    have e : sAhead ord s x.sn = ahK ord ⟨s.lo ord, s.hi ord, v⟩ (x.ie ord) := by
      unfold ahK sAhead PN.ie
      rfl
    rw [putP, List.map_cons, insK, ← e]
    split
    · rw [List.map_cons, List.map_cons, of_ie]
    · rw [List.map_cons, putP_ie P]
theorem putP_mem {ord : Int} {s : SN} {v : Int} {y : PN} : ∀ {P : List PN}, y ∈ putP ord s v P ↔ y = PN.of s v ∨ y ∈ P
  | [] => by simp [putP]
  | x :: P => by
    rw [putP]
    split
    · simp
    · rw [List.mem_cons, putP_mem, List.mem_cons]
      constructor
      · rintro (h | h | h)
        · exact .inr (.inl h)
        · exact .inl h
        · exact .inr (.inr h)
      · rintro (h | h | h)
        · exact .inr (.inl h)
        · exact .inl h
        · exact .inr (.inr h)
/-- What can be said of pieces: their texts are not too long. -/
def PSz (P : List PN) : Prop := ∀ x ∈ P, x.in__In_Begin.size ≤ 2147483647
def spFindX (ord : Int) (P : List PN) (s : SN) : TAx := match P.find? (fun x => sSame ord x.sn s) with | none => ⟨false, 0, [], []⟩ | some x => ⟨true, 0, [x.sn], [x.val]⟩
theorem spFindX_none {ord : Int} {P : List PN} {s : SN} (h : ∀ x ∈ P, sSame ord x.sn s = false) : spFindX ord P s = ⟨false, 0, [], []⟩ := by
  unfold spFindX
  rw [List.find?_eq_none.2 (fun x hx => by rw [h x hx]; decide)]
theorem find_split {α : Type} {p : α → Bool} : ∀ {l : List α} {k : Nat} {x : α}, l[k]? = some x → p x = true → (∀ y ∈ l.take k, p y = false) → l.find? p = some x
  | [], k, x, h, _, _ => by simp at h
  | y :: l, 0, x, h, hx, _ => by
    have : y = x := by simpa using h
    subst this
    rw [List.find?_cons, hx]
  | y :: l, k + 1, x, h, hx, hy => by
    rw [List.find?_cons, hy y (by simp)]
    exact find_split (by simpa using h) hx (fun z hz => hy z (by simp [hz]))
theorem spFindX_some {ord : Int} {P : List PN} {s : SN} {k : Nat} {x : PN} (h1 : P[k]? = some x) (h2 : sSame ord x.sn s = true) (h3 : ∀ y ∈ P.take k, sSame ord y.sn s = false) : spFindX ord P s = ⟨true, 0, [x.sn], [x.val]⟩ := by
  have q : P.find? (fun x => sSame ord x.sn s) = some x := by
    refine find_split h1 ?_ ?_
    · show sSame ord x.sn s = true
      exact h2
    · intro y hy
      show sSame ord y.sn s = false
      exact h3 y hy
  unfold spFindX
  rw [q]
theorem all_snoc {α : Type} {Q : α → Prop} {l : List α} {k : Nat} {x : α} (h : ∀ p ∈ l.take k, Q p) (hx : l[k]? = some x) (hp : Q x) : ∀ p ∈ l.take (k + 1), Q p := by
  intro p hm
  rw [take_snoc hx] at hm
  rcases List.mem_append.1 hm with h1 | h1
  · exact h p h1
  · rw [List.mem_singleton.1 h1]; exact hp
theorem same_snoc {ord : Int} {s : SN} {P : List PN} {k : Nat} {x : PN} (h : ∀ y ∈ P.take k, sSame ord y.sn s = false) (hx : P[k]? = some x) (hp : sSame ord x.sn s = false) : ∀ y ∈ P.take (k + 1), sSame ord y.sn s = false := all_snoc (Q := fun x => sSame ord x.sn s = false) h hx hp
theorem ahead_snoc {ord : Int} {s : SN} {P : List PN} {k : Nat} {x : PN} (h : ∀ y ∈ P.take k, sAhead ord s y.sn = false) (hx : P[k]? = some x) (hp : sAhead ord s x.sn = false) : ∀ y ∈ P.take (k + 1), sAhead ord s y.sn = false := all_snoc (Q := fun x => sAhead ord s x.sn = false) h hx hp
set_option maxHeartbeats 8000000 in
theorem spFind (R : HP) (ord : Int) (pb : Nat) (pv : Value) (P : List PN) (s : SN) (hP : RS R 6 pv (List.length P) (P.flatMap PN.cells)) (hz : PSz P) (hs : s.in__Begin.size ≤ 2147483647) (hn : P.length ≤ 100000) :
    Tri Try.prog 81 #[(vQ pb), (vA #[(Value.string s.in__Begin), (Value.string s.in__End), (vB s.in__Point), (vI .i64 s.from_), (vI .i64 s.till)])] R [cl pb 75 [(vI .i64 ord), pv]] (fun v__ post__ => (v__ = (vI .i64 (-1)) ∧ post__ = [cl pb 75 [(vI .i64 ord), pv]] ∧ (∀ x ∈ P, sSame ord x.sn s = false)) ∨ (∃ (k : Nat) (x : PN), v__ = (vI .i64 (k : Int)) ∧ post__ = [cl pb 75 [(vI .i64 ord), pv]] ∧ (P[k]? = some x) ∧ (sSame ord x.sn s = true) ∧ (∀ y ∈ P.take k, sSame ord y.sn s = false))) := by
 refine Tri.into (n := 27) (al := [(vQ pb), (vA #[(Value.string s.in__Begin), (Value.string s.in__End), (vB s.in__Point), (vI .i64 s.from_), (vI .i64 s.till)])]) Try.func81 rfl Try.ntmps81 rfl rfl fun w F H => ?_
 refine C_seq (fun K1_ hK1_ => C_reg ?_)
 refine S_list (T_box (v := (vA #[(Value.string s.in__Begin), (Value.string s.in__End), (vB s.in__Point), (vI .i64 s.from_), (vI .i64 s.till)])) rfl H ?_)
 intro b2_ w3_ S5_ H4_
 have S6_ := Same.trans (Same.refl w) S5_
 refine sv (v := (vI .i64 0)) (x_assign rfl) ?_
 refine wpList_nil (X_then (hK1_ _ _ ?_))
 clear hK1_
 refine C_seq (fun K7_ hK7_ => ?_)
 refine C_seq (fun K8_ hK8_ => C_reg ?_)
 refine sv (v := (vQ pb)) (x_move rfl) ?_
 refine sv (v := (vQ pb)) (by kernel_rfl) ?_
 refine sv (v := (vP (some ⟨pb, 1, none⟩))) (by kernel_rfl) ?_
 refine sv (v := pv) (x_load1 rfl Try.underlying73 rfl ((Holds.rd H4_ 2 rfl) 1 pv rfl)) ?_
 refine sv (v := (vI .i64 ((List.length P) : Int))) (x_lenRS rfl hP Try.underlying73) ?_
 refine sv (v := (vI .i64 0)) (x_move rfl) ?_
 refine wpList_nil (X_then (hK8_ _ _ ?_))
 clear hK8_
 refine C_block ?_
 refine C_loop (γ := Nat × Int) (fun x__ a__ w1__ => match x__ with | ⟨k, t4_v⟩ => ∃ h : Env, a__ = mkA 27 (upd (upd (upd (upd (upd (upd h 0 (vQ pb)) 3 (vQ b2_)) 4 (vI .i64 t4_v)) 10 pv) 11 (vI .i64 ((List.length P) : Int))) 12 (vI .i64 (k : Int))) [] ∧ Holds w1__ (cl b2_ 44 [(Value.string s.in__Begin), (Value.string s.in__End), (vB s.in__Point), (vI .i64 s.from_), (vI .i64 s.till)] :: ro R :: cl pb 75 [(vI .i64 ord), pv] :: F) ∧ Same w w1__ ∧ (k ≤ P.length) ∧ (∀ x ∈ P.take k, sSame ord x.sn s = false)) (fun x__ => match x__ with | ⟨k, t4_v⟩ => P.length - k) (⟨0, 0⟩) ⟨_, congrArg (fun e => mkA 27 e []) (ch (ch (ch (ch (ch (ch rfl rfl) rfl) rfl) rfl) rfl) (congrArg (vI .i64) ((by first | rfl | omega | (simp; done) | (simp; omega)) : 0 = (0 : Int)))), H4_, S6_, (by first | assumption | omega | exact rfl), (fun x h => by simp at h)⟩ ?_
 rintro ⟨k, t4_v⟩ _ w9_ ⟨h, rfl, H10_, S11_, hkk, hno⟩
 refine C_seq (fun K12_ hK12_ => C_reg ?_)
 refine sv (v := (vB (decide ((k : Int) < ((List.length P) : Int))))) (x_bin rfl rfl rfl) ?_
 refine wpList_nil (X_then (hK12_ _ _ ?_))
 clear hK12_
 refine C_seq (fun K13_ hK13_ => ?_)
 refine C_cond (b := decide ((k : Int) < ((List.length P) : Int))) rfl (fun c14_t => ?_) (fun c14_f => ?_)
 ·have c14_tp : (k : Int) < ((List.length P) : Int) := of_decide_eq_true c14_t
  refine C_skip (X_then (hK13_ _ _ ?_))
  clear hK13_
  refine C_seq (fun K15_ hK15_ => ?_)
  refine C_block ?_
  refine C_seq (fun K16_ hK16_ => C_reg ?_)
  refine sv (v := (vI .i64 (k : Int))) (x_move rfl) ?_
  obtain ⟨x17_, hx18_, hm19_⟩ := elem_at P k (by omega)
  have hz1_ := hz x17_ hm19_
  refine sv (v := (vP (some ⟨(sb pv), so pv + (k * 6 + 0), none⟩))) (x_idxRS (v := pv) rfl hP rfl Try.underlying73 z131 (by omega) (by omega) (by omega : _ = k) rfl) ?_
  refine sv (v := (vA #[(Value.string x17_.in__In_Begin), (Value.string x17_.in__In_End), (vB x17_.in__In_Point), (vI .i64 x17_.in__From), (vI .i64 x17_.in__Till), (vI .i64 x17_.val)])) (x_loadN (vs := [(Value.string x17_.in__In_Begin), (Value.string x17_.in__In_End), (vB x17_.in__In_Point), (vI .i64 x17_.in__From), (vI .i64 x17_.in__Till), (vI .i64 x17_.val)]) rfl Try.underlying131 rfl z131 rfl (RC.cells (RS.rc hP) (Holds.ro_at H10_ 1 rfl) (k * 6 + 0) (fm_cells PN.len hx18_ (i := 0) rfl))) ?_
  refine S_list (T_alloc z131 H10_ ?_)
  intro b20_ w21_ S23_ H22_
  have S24_ := Same.trans S11_ S23_
  refine sv (v := (vI .i64 (k : Int))) (x_assign rfl) ?_
  refine S_list0 (T_storeN (vs := [(Value.string x17_.in__In_Begin), (Value.string x17_.in__In_End), (vB x17_.in__In_Point), (vI .i64 x17_.in__From), (vI .i64 x17_.in__Till), (vI .i64 x17_.val)]) rfl rfl z131 rfl (by simp [Value.oneCell']) H22_ 0 rfl (Nat.le_of_ble_eq_true (by rfl)) ?_)
  intro w25_ S27_ H26_
  have S28_ := Same.trans S24_ S27_
  refine wpList_nil (X_then (hK16_ _ _ ?_))
  clear hK16_
  refine C_seq (fun K29_ hK29_ => ?_)
  refine A_start (S := fun w => Rd b20_ [(Value.string x17_.in__In_Begin), (Value.string x17_.in__In_End), (vB x17_.in__In_Point), (vI .i64 x17_.in__From), (vI .i64 x17_.in__Till), (vI .i64 x17_.val)] w ∧ Rd b2_ [(Value.string s.in__Begin), (Value.string s.in__End), (vB s.in__Point), (vI .i64 s.from_), (vI .i64 s.till)] w ∧ Rd pb [(vI .i64 ord), pv] w ∧ Sub R (hp w)) (N := 8) foll rfl rfl ?_
  have H30_ := Holds.drew_ H26_
  have hq31_ := And.intro (Holds.rd H30_ 0 rfl) (And.intro (Holds.rd H30_ 1 rfl) (And.intro (Holds.rd H30_ 3 rfl) ((Holds.ro_at H30_ 2 rfl))))
  refine A_tk 0 (v := (vQ pb)) rfl (by kernel_rfl) (fun w hS => x_move rfl) hq31_ ?_
  refine A_tk 1 (v := (vQ pb)) rfl (by kernel_rfl) (fun w hS => by kernel_rfl) hq31_ ?_
  refine A_tk 2 (v := (vQ pb)) rfl (by kernel_rfl) (fun w hS => by kernel_rfl) hq31_ ?_
  refine A_tk 3 (v := (vI .i64 ord)) rfl (by kernel_rfl) (fun w hS => x_load1 rfl Try.underlying3 rfl (hS.2.2.1 0 (vI .i64 ord) rfl)) hq31_ ?_
  refine A_tk 4 (v := (vQ b20_)) rfl (by kernel_rfl) (fun w hS => by kernel_rfl) hq31_ ?_
  refine A_tk 5 (v := (vA #[(Value.string x17_.in__In_Begin), (Value.string x17_.in__In_End), (vB x17_.in__In_Point), (vI .i64 x17_.in__From), (vI .i64 x17_.in__Till)])) rfl (by kernel_rfl) (fun w hS => x_loadN (vs := [(Value.string x17_.in__In_Begin), (Value.string x17_.in__In_End), (vB x17_.in__In_Point), (vI .i64 x17_.in__From), (vI .i64 x17_.in__Till)]) rfl Try.underlying44 rfl z44 rfl (Rd.cells hS.1 0 rfl)) hq31_ ?_
  refine A_tk 6 (v := (vA #[(Value.string s.in__Begin), (Value.string s.in__End), (vB s.in__Point), (vI .i64 s.from_), (vI .i64 s.till)])) rfl (by kernel_rfl) (fun w hS => x_loadN (vs := [(Value.string s.in__Begin), (Value.string s.in__End), (vB s.in__Point), (vI .i64 s.from_), (vI .i64 s.till)]) rfl Try.underlying44 rfl z44 rfl (Rd.cells hS.2.1 0 rfl)) hq31_ ?_
  refine A_ready (i := 7) (rs := []) (by kernel_rfl) ?_
  refine AllR.cons ?_ AllR.nil
  have H33_ := ((Holds.bring H30_ 2 rfl) :)
  refine A_op (ls' := #[true, true, true, true, true, true, true, true]) rfl (by kernel_rfl) (T_call (al := [(vI .i64 ord), (vA #[(Value.string x17_.sn.in__Begin), (Value.string x17_.sn.in__End), (vB x17_.sn.in__Point), (vI .i64 x17_.sn.from_), (vI .i64 x17_.sn.till)]), (vA #[(Value.string s.in__Begin), (Value.string s.in__End), (vB s.in__Point), (vI .i64 s.from_), (vI .i64 s.till)])]) (pre := []) rfl (lcons rfl (lcons (congrArg (fun l => vA (List.toArray l)) (lcons (congrArg Value.string ((by first | rfl | omega | (simp; done) | (simp; omega)) : x17_.in__In_Begin = x17_.sn.in__Begin)) (lcons (congrArg Value.string ((by first | rfl | omega | (simp; done) | (simp; omega)) : x17_.in__In_End = x17_.sn.in__End)) (lcons (congrArg vB ((by first | rfl | omega | (simp; done) | (simp; omega)) : x17_.in__In_Point = x17_.sn.in__Point)) (lcons (congrArg (vI .i64) ((by first | rfl | omega | (simp; done) | (simp; omega)) : x17_.in__From = x17_.sn.from_)) (lcons (congrArg (vI .i64) ((by first | rfl | omega | (simp; done) | (simp; omega)) : x17_.in__Till = x17_.sn.till)) rfl)))))) rfl)) cb20 (spSame R ord x17_.sn s (hz1_) (hs)) H33_ ?_)
  rintro v32_ p37_ w34_ ⟨rfl, rfl⟩ S36_ H35_
  have S38_ := Same.trans (Same.trans S28_ (Same.drew _)) S36_
  refine ⟨⟨Holds.rd H35_ 1 rfl, Holds.rd H35_ 2 rfl, Holds.rd H35_ 3 rfl, (Holds.ro_at H35_ 0 rfl)⟩, ?_⟩
  refine A_done (by kernel_rfl) ?_
  refine (X_then (hK29_ _ _ ?_))
  clear hK29_
  refine C_cond (b := sSame ord x17_.sn s) rfl (fun c39_t => ?_) (fun c39_f => ?_)
  ·skip
   refine C_seq (fun K40_ hK40_ => C_reg ?_)
   refine sv (v := (vI .i64 (k : Int))) (x_move rfl) ?_
   refine sv (v := (vI .i64 (k : Int))) (x_assign rfl) ?_
   refine wpList_nil (X_then (hK40_ _ _ ?_))
   clear hK40_
   refine C_ret (X_blkR (X_thenR (X_thenR (X_blkR (X_thenR ?_)))))
   refine R_any (v := (vI .i64 (k : Int))) (run_results1 rfl rfl) ?_
   have H41_ : Holds w34_ (ro R :: cl pb 75 [(vI .i64 ord), pv] :: F) := (Holds.pkF H35_ [0, 2] 2 :)
   exact ⟨_, _, rfl, (.inr ⟨k, x17_, rfl, rfl, (hx18_), (c39_t), (hno)⟩), S38_, H41_⟩
  ·skip
   refine C_skip (X_blkN (X_then (hK15_ _ _ ?_)))
   clear hK15_
   refine C_reg ?_
   refine sv (v := (vI .i64 ((k : Int) + 1))) (x_bin rfl rfl (ib_add (IntWalk.i64_in _ (by omega)))) ?_
   refine sv (v := (vI .i64 ((k : Int) + 1))) (x_move rfl) ?_
   refine wpList_nil (X_then ?_)
   have H42_ : Holds w34_ (cl b2_ 44 [(Value.string s.in__Begin), (Value.string s.in__End), (vB s.in__Point), (vI .i64 s.from_), (vI .i64 s.till)] :: ro R :: cl pb 75 [(vI .i64 ord), pv] :: F) := (Holds.pkF H35_ [2, 0, 1] 1 :)
   exact ⟨⟨k + 1, t4_v⟩, ⟨_, congrArg (fun e => mkA 27 e []) (ch (ch (ch (ch (ch (ch rfl rfl) rfl) rfl) rfl) rfl) (congrArg (vI .i64) ((by first | rfl | omega | (simp; done) | (simp; omega)) : (k : Int) + 1 = ((k + 1 : Nat) : Int)))), H42_, S38_, (by first | assumption | omega | exact rfl), (same_snoc hno hx18_ c39_f)⟩, by first | omega | (dsimp only; omega) | (simp; omega)⟩
 ·have c14_fp : ¬ ((k : Int) < ((List.length P) : Int)) := of_decide_eq_false c14_f
  refine C_exit (X_thenX (X_thenX (X_blkHit ?_)))
  refine (X_then (hK7_ _ _ ?_))
  clear hK7_
  refine C_seq (fun K43_ hK43_ => C_reg ?_)
  refine sv (v := (vI .i64 (-1))) (x_assign rfl) ?_
  refine wpList_nil (X_then (hK43_ _ _ ?_))
  clear hK43_
  refine C_ret ?_
  refine R_any (v := (vI .i64 (-1))) (run_results1 rfl rfl) ?_
  have H44_ : Holds w9_ (ro R :: cl pb 75 [(vI .i64 ord), pv] :: F) := (Holds.pkF H10_ [1, 1] 1 :)
  exact ⟨_, _, rfl, (.inl ⟨rfl, rfl, (by rw [List.take_of_length_le (by omega)] at hno; exact hno)⟩), S11_, H44_⟩
end Go.Proofs.Ytlnihndjepjagaa
