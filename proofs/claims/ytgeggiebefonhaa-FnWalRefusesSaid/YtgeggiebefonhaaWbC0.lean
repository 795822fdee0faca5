/- What the statement says of records: joined; the guards. -/
import Derived.Test.YtgeggiebefonhaaWbE
import Derived.Test.YtgeggiebefonhaaWbB0
set_option linter.unusedVariables false
set_option linter.unusedSimpArgs false
namespace Go.Proofs.Ytgeggiebefonhaa
open Go Go.RowKit Gw

set_option maxHeartbeats 400000 in
theorem sBytes (R : HP) (prev : Int) (rv : Value) (L : List WR) (hL : RS R 6 rv L.length (L.flatMap WR.cells)) (q1 : L.length ≤ 60) (hG : ∀ x ∈ L, Good x) :
    Tri Try.prog 20 #[(Value.int .u32 prev), rv] R [] (fun v__ post__ => ∃ (v1 v2 : Value), v__ = (Value.tuple #[v1, v2]) ∧ post__ = [sl 9 1 v1 ((wfs prev L).length) (((wfs prev L).map strN).map Value.string)]) := by
  have hlL : ∀ k, (wfs prev (List.take k L)).length ≤ 60 := fun k => by rw [wfs_len, List.length_take]; omega
  refine Tri.into (n := 34) (al := [(Value.int .u32 prev), rv]) Try.func20 rfl Try.ntmps20 rfl rfl fun w F H => ?_
  replace H : Holds w (ro R :: F) := H
  refine C_seq (fun K1_ hK1_ => ?_)
  refine C_reg ?_
  refine S_list (T_val (v := (Value.slice none 0 0)) (x_assign rfl) ?_)
  refine S_list (T_val (v := (Value.slice none 0 0)) (x_assign rfl) ?_)
  refine wpList_nil ?_
  refine (X_then (hK1_ _ _ ?_))
  clear hK1_
  refine C_seq (fun K2_ hK2_ => ?_)
  refine C_reg ?_
  refine S_list (T_val (v := (Value.slice none 0 0)) (x_assign rfl) ?_)
  refine wpList_nil ?_
  refine (X_then (hK2_ _ _ ?_))
  clear hK2_
  refine C_seq (fun K3_ hK3_ => ?_)
  refine C_reg ?_
  refine S_list (T_val (v := (Value.slice none 0 0)) (x_assign rfl) ?_)
  refine wpList_nil ?_
  refine (X_then (hK3_ _ _ ?_))
  clear hK3_
  refine C_seq (fun K4_ hK4_ => ?_)
  refine C_seq (fun K5_ hK5_ => ?_)
  refine C_reg ?_
  refine S_list (T_val (v := rv) (x_move rfl) ?_)
  refine S_list (T_val (v := (Value.int .i64 (L.length : Int))) (x_lenRS rfl hL Try.underlying49) ?_)
  refine S_list (T_val (v := (Value.int .i64 0)) (x_move rfl) ?_)
  refine wpList_nil ?_
  refine (X_then (hK5_ _ _ ?_))
  clear hK5_
  refine C_block ?_
  have H6_ : Holds w (sl 46 1 (Value.slice none 0 0) 0 ([] : List Value) :: ro R :: F) := Holds.add_nil H 46 1
  have H7_ : Holds w (sl 9 1 (Value.slice none 0 0) ((wfs prev (List.take 0 L)).length) (((wfs prev (List.take 0 L)).map strN).map Value.string) :: sl 46 1 (Value.slice none 0 0) 0 ([] : List Value) :: ro R :: F) := Holds.add_nil H6_ 9 1
  refine C_loop (γ := Nat × Value × Value × Nat × (List Value)) (fun x a w1 => match x with | ⟨k, v1, v2, m2, ss⟩ => ∃ h : Env, a = mkA 34 (upd (upd (upd (upd (upd (upd (upd (upd h 0 (Value.int .u32 (wsm prev (List.take k L)))) 4 (Value.slice none 0 0)) 5 (Value.slice none 0 0)) 6 v1) 7 v2) 10 rv) 11 (Value.int .i64 (L.length : Int))) 12 (Value.int .i64 (k : Int))) [] ∧ Holds w1 (sl 9 1 v1 ((wfs prev (List.take k L)).length) (((wfs prev (List.take k L)).map strN).map Value.string) :: sl 46 1 v2 m2 ss :: ro R :: F) ∧ Same w w1 ∧ (k ≤ L.length) ∧ (m2 = k)) (fun x => match x with | ⟨k, v1, v2, m2, ss⟩ => L.length - k) (⟨0, (Value.slice none 0 0), (Value.slice none 0 0), 0, ([] : List Value)⟩) ⟨_, congrArg (fun e => mkA 34 e []) (ch (ch (ch (ch (ch (ch (ch (ch rfl (congrArg (Value.int .u32) ((by first | rfl | omega | (simp; done) | (simp; omega)) : prev = wsm prev (List.take 0 L)))) rfl) rfl) (rfl : (Value.slice none 0 0) = ((Value.slice none 0 0)))) (rfl : (Value.slice none 0 0) = ((Value.slice none 0 0)))) rfl) rfl) (congrArg (Value.int .i64) ((by first | rfl | omega | (simp; done) | (simp; omega)) : 0 = (0 : Int)))), H7_, (Same.refl w), (by first | assumption | omega | exact rfl), (by first | assumption | omega | exact rfl)⟩ ?_
  rintro ⟨k, v1, v2, m2, ss⟩ _ w8_ ⟨h, rfl, H9_, S10_, hk, hm2⟩
  refine C_seq (fun K11_ hK11_ => ?_)
  refine C_reg ?_
  refine S_list (T_val (v := (Value.bool (decide ((k : Int) < (L.length : Int))))) (x_bin rfl rfl rfl) ?_)
  refine wpList_nil ?_
  refine (X_then (hK11_ _ _ ?_))
  clear hK11_
  refine C_seq (fun K12_ hK12_ => ?_)
  refine C_cond (b := decide ((k : Int) < (L.length : Int))) rfl (fun c13_t => ?_) (fun c13_f => ?_)
  · have c13_tp : (k : Int) < (L.length : Int) := of_decide_eq_true c13_t
    refine C_skip (X_then (hK12_ _ _ ?_))
    clear hK12_
    refine C_seq (fun K14_ hK14_ => ?_)
    refine C_block ?_
    refine C_seq (fun K15_ hK15_ => ?_)
    refine C_reg ?_
    obtain ⟨x16_, hx17_, hm18_⟩ := elem_at L k (by omega)
    have hp19_ := hG x16_ hm18_
    have hg20_ := hG x16_ hm18_
    have := hg20_.len
    refine S_list (T_val (v := (Value.pointer (some ⟨(sb rv), so rv + (k * 6 + 0), none⟩))) (x_idxRS (v := rv) rfl hL rfl Try.underlying49 z63 (by omega) (by omega) (by omega : _ = k) rfl) ?_)
    refine S_list (T_val (v := (Value.agg #[(Value.int .i64 x16_.type_), (Value.bool x16_.hasType), (Value.int .u32 x16_.crc), (Value.bool x16_.hasCrc), (Value.string x16_.data), (Value.bool x16_.hasData)])) (x_loadN (vs := [(Value.int .i64 x16_.type_), (Value.bool x16_.hasType), (Value.int .u32 x16_.crc), (Value.bool x16_.hasCrc), (Value.string x16_.data), (Value.bool x16_.hasData)]) rfl Try.underlying63 rfl z63 rfl (RC.cells (RS.rc hL) (Holds.ro_at H9_ 2 rfl) (k * 6 + 0) (fm_cells WR.len hx17_ (i := 0) rfl))) ?_)
    refine S_list (T_alloc z63 H9_ ?_)
    intro b21_ w22_ S24_ H23_
    replace H23_ : Holds w22_ (cl b21_ 63 [(Value.int .i64 0), (Value.bool false), (Value.int .u32 0), (Value.bool false), (Value.string ByteArray.empty), (Value.bool false)] :: sl 9 1 v1 ((wfs prev (List.take k L)).length) (((wfs prev (List.take k L)).map strN).map Value.string) :: sl 46 1 v2 m2 ss :: ro R :: F) := H23_
    have S25_ := Same.trans S10_ S24_
    refine S_list0 (T_storeN (vs := [(Value.int .i64 x16_.type_), (Value.bool x16_.hasType), (Value.int .u32 x16_.crc), (Value.bool x16_.hasCrc), (Value.string x16_.data), (Value.bool x16_.hasData)]) rfl rfl z63 rfl (by simp [Value.oneCell']) H23_ 0 rfl (Nat.le_of_ble_eq_true (by rfl)) ?_)
    intro w26_ S28_ H27_
    replace H27_ : Holds w26_ (cl b21_ 63 [(Value.int .i64 x16_.type_), (Value.bool x16_.hasType), (Value.int .u32 x16_.crc), (Value.bool x16_.hasCrc), (Value.string x16_.data), (Value.bool x16_.hasData)] :: sl 9 1 v1 ((wfs prev (List.take k L)).length) (((wfs prev (List.take k L)).map strN).map Value.string) :: sl 46 1 v2 m2 ss :: ro R :: F) := H27_
    have S29_ := Same.trans S25_ S28_
    refine wpList_nil ?_
    refine (X_then (hK15_ _ _ ?_))
    clear hK15_
    refine C_seq (fun K30_ hK30_ => ?_)
    refine C_reg ?_
    refine S_list (T_val (v := (Value.int .u32 (wsm prev (List.take k L)))) (x_move rfl) ?_)
    refine S_list (T_val (v := (Value.pointer (some ⟨b21_, 4, none⟩))) (by kernel_rfl) ?_)
    refine S_list (T_val (v := (Value.string x16_.data)) (x_load1 rfl Try.underlying9 rfl ((Holds.rd H27_ 0 rfl) 4 (Value.string x16_.data) rfl)) ?_)
    have H32_ : Holds w26_ (ro R :: cl b21_ 63 [(Value.int .i64 x16_.type_), (Value.bool x16_.hasType), (Value.int .u32 x16_.crc), (Value.bool x16_.hasCrc), (Value.string x16_.data), (Value.bool x16_.hasData)] :: sl 9 1 v1 ((wfs prev (List.take k L)).length) (((wfs prev (List.take k L)).map strN).map Value.string) :: sl 46 1 v2 m2 ss :: F) := (Holds.bring H27_ 3 rfl)
    refine S_list (T_call (al := [(Value.int .u32 (wsm prev (List.take k L))), (Value.string x16_.data)]) (pre := []) (F := cl b21_ 63 [(Value.int .i64 x16_.type_), (Value.bool x16_.hasType), (Value.int .u32 x16_.crc), (Value.bool x16_.hasCrc), (Value.string x16_.data), (Value.bool x16_.hasData)] :: sl 9 1 v1 ((wfs prev (List.take k L)).length) (((wfs prev (List.take k L)).map strN).map Value.string) :: sl 46 1 v2 m2 ss :: F) rfl rfl cb48 (sSum R (wsm prev (List.take k L)) x16_.data (by first | assumption | omega)) H32_ ?_)
    rintro v31_ p36_ w33_ ⟨rfl, rfl⟩ S35_ H34_
    replace H34_ : Holds w33_ (ro R :: cl b21_ 63 [(Value.int .i64 x16_.type_), (Value.bool x16_.hasType), (Value.int .u32 x16_.crc), (Value.bool x16_.hasCrc), (Value.string x16_.data), (Value.bool x16_.hasData)] :: sl 9 1 v1 ((wfs prev (List.take k L)).length) (((wfs prev (List.take k L)).map strN).map Value.string) :: sl 46 1 v2 m2 ss :: F) := H34_
    have S37_ := Same.trans S29_ S35_
    refine S_list (T_val (v := (Value.int .u32 (crc (wsm prev (List.take k L)) (ints x16_.data)))) (x_assign rfl) ?_)
    refine wpList_nil ?_
    refine (X_then (hK30_ _ _ ?_))
    clear hK30_
    refine C_reg ?_
    refine S_list (T_val (v := v1) (x_move rfl) ?_)
    refine S_list (T_val (v := (Value.agg #[(Value.int .i64 x16_.type_), (Value.bool x16_.hasType), (Value.int .u32 x16_.crc), (Value.bool x16_.hasCrc), (Value.string x16_.data), (Value.bool x16_.hasData)])) (x_loadN (vs := [(Value.int .i64 x16_.type_), (Value.bool x16_.hasType), (Value.int .u32 x16_.crc), (Value.bool x16_.hasCrc), (Value.string x16_.data), (Value.bool x16_.hasData)]) rfl Try.underlying63 rfl z63 rfl (Rd.cells (Holds.rd H34_ 1 rfl) 0 rfl)) ?_)
    refine S_list (T_val (v := (Value.int .u32 (crc (wsm prev (List.take k L)) (ints x16_.data)))) (x_move rfl) ?_)
    refine S_list (T_call (al := [(Value.agg #[(Value.int .i64 x16_.type_), (Value.bool x16_.hasType), (Value.int .u32 x16_.crc), (Value.bool x16_.hasCrc), (Value.string x16_.data), (Value.bool x16_.hasData)]), (Value.int .u32 (crc (wsm prev (List.take k L)) (ints x16_.data)))]) (pre := []) (F := cl b21_ 63 [(Value.int .i64 x16_.type_), (Value.bool x16_.hasType), (Value.int .u32 x16_.crc), (Value.bool x16_.hasCrc), (Value.string x16_.data), (Value.bool x16_.hasData)] :: sl 9 1 v1 ((wfs prev (List.take k L)).length) (((wfs prev (List.take k L)).map strN).map Value.string) :: sl 46 1 v2 m2 ss :: F) rfl rfl cb50 (sBody R x16_ (crc (wsm prev (List.take k L)) (ints x16_.data)) (by first | assumption | omega)) H34_ ?_)
    rintro v38_ p42_ w39_ ⟨rfl, rfl⟩ S41_ H40_
    replace H40_ : Holds w39_ (ro R :: cl b21_ 63 [(Value.int .i64 x16_.type_), (Value.bool x16_.hasType), (Value.int .u32 x16_.crc), (Value.bool x16_.hasCrc), (Value.string x16_.data), (Value.bool x16_.hasData)] :: sl 9 1 v1 ((wfs prev (List.take k L)).length) (((wfs prev (List.take k L)).map strN).map Value.string) :: sl 46 1 v2 m2 ss :: F) := H40_
    have S43_ := Same.trans S37_ S41_
    refine S_list (T_call (al := [(Value.string (strN (wbody x16_.type_ (crc (wsm prev (List.take k L)) (ints x16_.data)) x16_.hasData (ints x16_.data))))]) (pre := []) (F := cl b21_ 63 [(Value.int .i64 x16_.type_), (Value.bool x16_.hasType), (Value.int .u32 x16_.crc), (Value.bool x16_.hasCrc), (Value.string x16_.data), (Value.bool x16_.hasData)] :: sl 9 1 v1 ((wfs prev (List.take k L)).length) (((wfs prev (List.take k L)).map strN).map Value.string) :: sl 46 1 v2 m2 ss :: F) rfl rfl cb49 (sFrame R (wbody x16_.type_ (crc (wsm prev (List.take k L)) (ints x16_.data)) x16_.hasData (ints x16_.data)) (by have hb_ := wbody_len x16_.type_ (crc (wsm prev (List.take k L)) (ints x16_.data)) x16_.hasData (ints x16_.data); rw [ints_length] at hb_; omega)) H40_ ?_)
    rintro v44_ p48_ w45_ ⟨rfl, rfl⟩ S47_ H46_
    replace H46_ : Holds w45_ (ro R :: cl b21_ 63 [(Value.int .i64 x16_.type_), (Value.bool x16_.hasType), (Value.int .u32 x16_.crc), (Value.bool x16_.hasCrc), (Value.string x16_.data), (Value.bool x16_.hasData)] :: sl 9 1 v1 ((wfs prev (List.take k L)).length) (((wfs prev (List.take k L)).map strN).map Value.string) :: sl 46 1 v2 m2 ss :: F) := H46_
    have S49_ := Same.trans S43_ S47_
    refine S_list (T_new (obj := .cells #[(Value.string (strN (wframe (wbody x16_.type_ (crc (wsm prev (List.take k L)) (ints x16_.data)) x16_.hasData (ints x16_.data)))))] 9) (f := fun b__ => .slice (some ⟨b__, 0, none⟩) 1 1) (A := fun b__ => cl b__ 9 [(Value.string (strN (wframe (wbody x16_.type_ (crc (wsm prev (List.take k L)) (ints x16_.data)) x16_.hasData (ints x16_.data)))))]) (by kernel_rfl) (fun l h => h.alloc _ _) H46_ ?_)
    intro b50_ w51_ S53_ H52_
    replace H52_ : Holds w51_ (cl b50_ 9 [(Value.string (strN (wframe (wbody x16_.type_ (crc (wsm prev (List.take k L)) (ints x16_.data)) x16_.hasData (ints x16_.data)))))] :: ro R :: cl b21_ 63 [(Value.int .i64 x16_.type_), (Value.bool x16_.hasType), (Value.int .u32 x16_.crc), (Value.bool x16_.hasCrc), (Value.string x16_.data), (Value.bool x16_.hasData)] :: sl 9 1 v1 ((wfs prev (List.take k L)).length) (((wfs prev (List.take k L)).map strN).map Value.string) :: sl 46 1 v2 m2 ss :: F) := H52_
    have S54_ := Same.trans S49_ S53_
    refine S_list (T_append rfl rfl Try.underlying54 z9 rfl (by decide) H52_ 3 rfl (Holds.cl_src H52_ 0 rfl Try.underlying54 (by simp [Value.oneCell']) rfl) (by have := hlL k; omega) ?_)
    intro v55_ w56_ S58_ H57_
    replace H57_ : Holds w56_ (cl b50_ 9 [(Value.string (strN (wframe (wbody x16_.type_ (crc (wsm prev (List.take k L)) (ints x16_.data)) x16_.hasData (ints x16_.data)))))] :: ro R :: cl b21_ 63 [(Value.int .i64 x16_.type_), (Value.bool x16_.hasType), (Value.int .u32 x16_.crc), (Value.bool x16_.hasCrc), (Value.string x16_.data), (Value.bool x16_.hasData)] :: sl 9 1 v55_ ((wfs prev (List.take k L)).length + 1) ((((wfs prev (List.take k L)).map strN).map Value.string) ++ [(Value.string (strN (wframe (wbody x16_.type_ (crc (wsm prev (List.take k L)) (ints x16_.data)) x16_.hasData (ints x16_.data)))))]) :: sl 46 1 v2 m2 ss :: F) := H57_
    have S59_ := Same.trans S54_ S58_
    refine S_list (T_val (v := v2) (x_move rfl) ?_)
    refine S_list (T_val (v := (Value.int .u32 (crc (wsm prev (List.take k L)) (ints x16_.data)))) (x_move rfl) ?_)
    refine S_list (T_new (obj := .cells #[(Value.int .u32 (crc (wsm prev (List.take k L)) (ints x16_.data)))] 46) (f := fun b__ => .slice (some ⟨b__, 0, none⟩) 1 1) (A := fun b__ => cl b__ 46 [(Value.int .u32 (crc (wsm prev (List.take k L)) (ints x16_.data)))]) (by kernel_rfl) (fun l h => h.alloc _ _) H57_ ?_)
    intro b60_ w61_ S63_ H62_
    replace H62_ : Holds w61_ (cl b60_ 46 [(Value.int .u32 (crc (wsm prev (List.take k L)) (ints x16_.data)))] :: cl b50_ 9 [(Value.string (strN (wframe (wbody x16_.type_ (crc (wsm prev (List.take k L)) (ints x16_.data)) x16_.hasData (ints x16_.data)))))] :: ro R :: cl b21_ 63 [(Value.int .i64 x16_.type_), (Value.bool x16_.hasType), (Value.int .u32 x16_.crc), (Value.bool x16_.hasCrc), (Value.string x16_.data), (Value.bool x16_.hasData)] :: sl 9 1 v55_ ((wfs prev (List.take k L)).length + 1) ((((wfs prev (List.take k L)).map strN).map Value.string) ++ [(Value.string (strN (wframe (wbody x16_.type_ (crc (wsm prev (List.take k L)) (ints x16_.data)) x16_.hasData (ints x16_.data)))))]) :: sl 46 1 v2 m2 ss :: F) := H62_
    have S64_ := Same.trans S59_ S63_
    refine S_list (T_append rfl rfl Try.underlying55 z46 rfl (by decide) H62_ 5 rfl (Holds.cl_src H62_ 0 rfl Try.underlying55 (by simp [Value.oneCell']) rfl) (by have := hlL k; omega) ?_)
    intro v65_ w66_ S68_ H67_
    replace H67_ : Holds w66_ (cl b60_ 46 [(Value.int .u32 (crc (wsm prev (List.take k L)) (ints x16_.data)))] :: cl b50_ 9 [(Value.string (strN (wframe (wbody x16_.type_ (crc (wsm prev (List.take k L)) (ints x16_.data)) x16_.hasData (ints x16_.data)))))] :: ro R :: cl b21_ 63 [(Value.int .i64 x16_.type_), (Value.bool x16_.hasType), (Value.int .u32 x16_.crc), (Value.bool x16_.hasCrc), (Value.string x16_.data), (Value.bool x16_.hasData)] :: sl 9 1 v55_ ((wfs prev (List.take k L)).length + 1) ((((wfs prev (List.take k L)).map strN).map Value.string) ++ [(Value.string (strN (wframe (wbody x16_.type_ (crc (wsm prev (List.take k L)) (ints x16_.data)) x16_.hasData (ints x16_.data)))))]) :: sl 46 1 v65_ (m2 + 1) (ss ++ [(Value.int .u32 (crc (wsm prev (List.take k L)) (ints x16_.data)))]) :: F) := H67_
    have S69_ := Same.trans S64_ S68_
    refine S_list (T_val (v := v55_) (x_assign rfl) ?_)
    refine S_list (T_val (v := v65_) (x_assign rfl) ?_)
    refine wpList_nil ?_
    refine (X_blkN (X_then (hK14_ _ _ ?_)))
    clear hK14_
    refine C_reg ?_
    refine S_list (T_val (v := (Value.int .i64 ((k : Int) + 1))) (x_bin rfl rfl (ib_add (IntWalk.i64_in _ (by omega)))) ?_)
    refine S_list (T_val (v := (Value.int .i64 ((k : Int) + 1))) (x_move rfl) ?_)
    refine wpList_nil ?_
    refine (X_then ?_)
    have H70_ : Holds w66_ (cl b60_ 46 [(Value.int .u32 (crc (wsm prev (List.take k L)) (ints x16_.data)))] :: cl b50_ 9 [(Value.string (strN (wframe (wbody x16_.type_ (crc (wsm prev (List.take k L)) (ints x16_.data)) x16_.hasData (ints x16_.data)))))] :: ro R :: cl b21_ 63 [(Value.int .i64 x16_.type_), (Value.bool x16_.hasType), (Value.int .u32 x16_.crc), (Value.bool x16_.hasCrc), (Value.string x16_.data), (Value.bool x16_.hasData)] :: sl 9 1 v55_ ((wfs prev (List.take (k + 1) L)).length) (((wfs prev (List.take (k + 1) L)).map strN).map Value.string) :: sl 46 1 v65_ (m2 + 1) (ss ++ [(Value.int .u32 (crc (wsm prev (List.take k L)) (ints x16_.data)))]) :: F) := cast2 (P := fun (c__ : List Value) (k__ : Nat) => Holds w66_ (cl b60_ 46 [(Value.int .u32 (crc (wsm prev (List.take k L)) (ints x16_.data)))] :: cl b50_ 9 [(Value.string (strN (wframe (wbody x16_.type_ (crc (wsm prev (List.take k L)) (ints x16_.data)) x16_.hasData (ints x16_.data)))))] :: ro R :: cl b21_ 63 [(Value.int .i64 x16_.type_), (Value.bool x16_.hasType), (Value.int .u32 x16_.crc), (Value.bool x16_.hasCrc), (Value.string x16_.data), (Value.bool x16_.hasData)] :: sl 9 1 v55_ k__ c__ :: sl 46 1 v65_ (m2 + 1) (ss ++ [(Value.int .u32 (crc (wsm prev (List.take k L)) (ints x16_.data)))]) :: F)) ((by rw [wfs_take hx17_]; simp [wfr, wnx]) : (((wfs prev (List.take k L)).map strN).map Value.string) ++ [(Value.string (strN (wframe (wbody x16_.type_ (crc (wsm prev (List.take k L)) (ints x16_.data)) x16_.hasData (ints x16_.data)))))] = ((wfs prev (List.take (k + 1) L)).map strN).map Value.string) ((by rw [wfs_take hx17_]; simp) : (wfs prev (List.take k L)).length + 1 = (wfs prev (List.take (k + 1) L)).length) H67_
    have H71_ : Holds w66_ (sl 9 1 v55_ ((wfs prev (List.take (k + 1) L)).length) (((wfs prev (List.take (k + 1) L)).map strN).map Value.string) :: sl 46 1 v65_ (m2 + 1) (ss ++ [(Value.int .u32 (crc (wsm prev (List.take k L)) (ints x16_.data)))]) :: ro R :: F) := (Holds.erase (Holds.erase (Holds.erase (Holds.bring (Holds.bring (Holds.bring H70_ 2 rfl) 5 rfl) 5 rfl) 3) 3) 3)
    exact ⟨⟨k + 1, v55_, v65_, m2 + 1, ss ++ [(Value.int .u32 (crc (wsm prev (List.take k L)) (ints x16_.data)))]⟩, ⟨_, congrArg (fun e => mkA 34 e []) (ch (ch (ch (ch (ch (ch (ch (ch rfl (congrArg (Value.int .u32) ((by rw [wsm_take hx17_]; rfl) : crc (wsm prev (List.take k L)) (ints x16_.data) = wsm prev (List.take (k + 1) L)))) rfl) rfl) rfl) rfl) rfl) rfl) (congrArg (Value.int .i64) ((by first | rfl | omega | (simp; done) | (simp; omega)) : (k : Int) + 1 = ((k + 1 : Nat) : Int)))), H71_, S69_, (by first | assumption | omega | exact rfl), (by first | assumption | omega | exact rfl)⟩, by first | omega | (dsimp only; omega) | (simp; omega)⟩
  · have c13_fp : ¬ ((k : Int) < (L.length : Int)) := of_decide_eq_false c13_f
    refine C_exit (X_thenX (X_thenX (X_blkHit ?_)))
    refine (X_then (hK4_ _ _ ?_))
    clear hK4_
    refine C_seq (fun K72_ hK72_ => ?_)
    refine C_reg ?_
    refine S_list (T_val (v := v1) (x_move rfl) ?_)
    refine S_list (T_val (v := v2) (x_move rfl) ?_)
    refine S_list (T_val (v := v1) (x_assign rfl) ?_)
    refine S_list (T_val (v := v2) (x_assign rfl) ?_)
    refine wpList_nil ?_
    refine (X_then (hK72_ _ _ ?_))
    clear hK72_
    refine C_ret ?_
    refine R_any (v := (Value.tuple #[v1, v2])) (run_results2 rfl rfl rfl) ?_
    have H73_ : Holds w8_ (sl 9 1 v1 ((wfs prev L).length) (((wfs prev L).map strN).map Value.string) :: sl 46 1 v2 m2 ss :: ro R :: F) := cast2 (P := fun (c__ : List Value) (k__ : Nat) => Holds w8_ (sl 9 1 v1 k__ c__ :: sl 46 1 v2 m2 ss :: ro R :: F)) ((by rw [List.take_of_length_le (by omega)]) : ((wfs prev (List.take k L)).map strN).map Value.string = ((wfs prev L).map strN).map Value.string) ((by rw [List.take_of_length_le (by omega)]) : (wfs prev (List.take k L)).length = (wfs prev L).length) H9_
    have H74_ : Holds w8_ (ro R :: sl 9 1 v1 ((wfs prev L).length) (((wfs prev L).map strN).map Value.string) :: F) := (Holds.erase (Holds.bring (Holds.bring H73_ 0 rfl) 2 rfl) 2)
    exact ⟨_, [sl 9 1 v1 ((wfs prev L).length) (((wfs prev L).map strN).map Value.string)], rfl, ⟨v1, v2, rfl, rfl⟩, S10_, H74_⟩

set_option maxHeartbeats 400000 in
theorem lJoin (R : HP) (v : Value) (l : List ByteArray) (hV : RS R 1 v l.length (l.map Value.string)) (q1 : l.length ≤ 1000) (hS : ∀ x ∈ l, x.size ≤ 10000) :
    Tri Try.prog 21 #[v] R [] (fun v__ post__ => v__ = (Value.string (joinB l)) ∧ post__ = []) := by
  refine Tri.into (n := 17) (al := [v]) Try.func21 rfl Try.ntmps21 rfl rfl fun w F H => ?_
  replace H : Holds w (ro R :: F) := H
  refine C_seq (fun K1_ hK1_ => ?_)
  refine C_reg ?_
  refine S_list (T_val (v := (Value.string (ByteArray.mk #[]))) (x_assign rfl) ?_)
  refine wpList_nil ?_
  refine (X_then (hK1_ _ _ ?_))
  clear hK1_
  refine C_seq (fun K2_ hK2_ => ?_)
  refine C_reg ?_
  refine S_list (T_val (v := (Value.string (ByteArray.mk #[]))) (x_assign rfl) ?_)
  refine wpList_nil ?_
  refine (X_then (hK2_ _ _ ?_))
  clear hK2_
  refine C_seq (fun K3_ hK3_ => ?_)
  refine C_seq (fun K4_ hK4_ => ?_)
  refine C_reg ?_
  refine S_list (T_val (v := v) (x_move rfl) ?_)
  refine S_list (T_val (v := (Value.int .i64 (l.length : Int))) (x_lenRS rfl hV Try.underlying54) ?_)
  refine S_list (T_val (v := (Value.int .i64 0)) (x_move rfl) ?_)
  refine wpList_nil ?_
  refine (X_then (hK4_ _ _ ?_))
  clear hK4_
  refine C_block ?_
  refine C_loop (γ := Nat) (fun k a w1 => ∃ h : Env, a = mkA 17 (upd (upd (upd (upd (upd h 2 (Value.string (ByteArray.mk #[]))) 3 (Value.string (joinB (List.take k l)))) 6 v) 7 (Value.int .i64 (l.length : Int))) 8 (Value.int .i64 (k : Int))) [] ∧ Holds w1 (ro R :: F) ∧ Same w w1 ∧ (k ≤ l.length)) (fun k => l.length - k) (0) ⟨_, congrArg (fun e => mkA 17 e []) (ch (ch (ch (ch (ch rfl rfl) (congrArg Value.string ((by first | rfl | omega | (simp; done) | (simp; omega)) : (ByteArray.mk #[]) = (joinB (List.take 0 l))))) rfl) rfl) (congrArg (Value.int .i64) ((by first | rfl | omega | (simp; done) | (simp; omega)) : 0 = (0 : Int)))), H, (Same.refl w), (by first | assumption | omega | exact rfl)⟩ ?_
  rintro k _ w5_ ⟨h, rfl, H6_, S7_, hk⟩
  refine C_seq (fun K8_ hK8_ => ?_)
  refine C_reg ?_
  refine S_list (T_val (v := (Value.bool (decide ((k : Int) < (l.length : Int))))) (x_bin rfl rfl rfl) ?_)
  refine wpList_nil ?_
  refine (X_then (hK8_ _ _ ?_))
  clear hK8_
  refine C_seq (fun K9_ hK9_ => ?_)
  refine C_cond (b := decide ((k : Int) < (l.length : Int))) rfl (fun c10_t => ?_) (fun c10_f => ?_)
  · have c10_tp : (k : Int) < (l.length : Int) := of_decide_eq_true c10_t
    refine C_skip (X_then (hK9_ _ _ ?_))
    clear hK9_
    refine C_seq (fun K11_ hK11_ => ?_)
    refine C_block ?_
    refine C_seq (fun K12_ hK12_ => ?_)
    refine C_reg ?_
    obtain ⟨x13_, hx14_, hm15_⟩ := elem_at l k (by omega)
    have hp16_ := hS x13_ hm15_
    have hjs_ := joinB_size (l := List.take k l) fun y hy => hS y (List.mem_of_mem_take hy)
    rw [List.length_take] at hjs_
    refine S_list (T_val (v := (Value.pointer (some ⟨(sb v), so v + k, none⟩))) (x_idxRS (v := v) rfl hV rfl Try.underlying54 z9 (by omega) (by omega) (by omega : _ = k) (by rw [Nat.mul_one])) ?_)
    refine S_list (T_val (v := (Value.string x13_)) (x_load1 rfl Try.underlying9 rfl (RC.cell (RS.rc hV) (Holds.ro_at H6_ 0 rfl) (j := k) (u := (Value.string x13_)) ((map_at hx14_)))) ?_)
    refine S_list (T_val (v := (Value.string x13_)) (x_assign rfl) ?_)
    refine wpList_nil ?_
    refine (X_then (hK12_ _ _ ?_))
    clear hK12_
    refine C_reg ?_
    refine S_list (T_val (v := (Value.string (joinB (List.take k l)))) (x_move rfl) ?_)
    refine S_list (T_val (v := (Value.string x13_)) (x_move rfl) ?_)
    refine S_list (T_val (v := (Value.string ((joinB (List.take k l)) ++ x13_))) (x_str rfl rfl (so_add (by omega)) (by decide)) ?_)
    refine S_list (T_val (v := (Value.string ((joinB (List.take k l)) ++ x13_))) (x_assign rfl) ?_)
    refine wpList_nil ?_
    refine (X_blkN (X_then (hK11_ _ _ ?_)))
    clear hK11_
    refine C_reg ?_
    refine S_list (T_val (v := (Value.int .i64 ((k : Int) + 1))) (x_bin rfl rfl (ib_add (IntWalk.i64_in _ (by omega)))) ?_)
    refine S_list (T_val (v := (Value.int .i64 ((k : Int) + 1))) (x_move rfl) ?_)
    refine wpList_nil ?_
    refine (X_then ?_)
    exact ⟨(k + 1), ⟨_, congrArg (fun e => mkA 17 e []) (ch (ch (ch (ch (ch rfl rfl) (congrArg Value.string ((joinB_take hx14_) : ((joinB (List.take k l)) ++ x13_) = (joinB (List.take (k + 1) l))))) rfl) rfl) (congrArg (Value.int .i64) ((by first | rfl | omega | (simp; done) | (simp; omega)) : (k : Int) + 1 = ((k + 1 : Nat) : Int)))), H6_, S7_, (by first | assumption | omega | exact rfl)⟩, by first | omega | (dsimp only; omega) | (simp; omega)⟩
  · have c10_fp : ¬ ((k : Int) < (l.length : Int)) := of_decide_eq_false c10_f
    refine C_exit (X_thenX (X_thenX (X_blkHit ?_)))
    refine (X_then (hK3_ _ _ ?_))
    clear hK3_
    refine C_seq (fun K17_ hK17_ => ?_)
    refine C_reg ?_
    refine S_list (T_val (v := (Value.string (joinB (List.take k l)))) (x_move rfl) ?_)
    refine S_list (T_val (v := (Value.string (joinB (List.take k l)))) (x_assign rfl) ?_)
    refine wpList_nil ?_
    refine (X_then (hK17_ _ _ ?_))
    clear hK17_
    refine C_ret ?_
    refine R_any (v := (Value.string (joinB (List.take k l)))) (run_results1 rfl rfl) ?_
    exact ⟨_, [], rfl, ⟨(congrArg Value.string ((by rw [List.take_of_length_le (by omega)]) : (joinB (List.take k l)) = (joinB l))), rfl⟩, S7_, H6_⟩

set_option maxHeartbeats 400000 in
theorem lFits (R : HP) (rv : Value) (L : List WR) (hL : RS R 6 rv L.length (L.flatMap WR.cells)) :
    Tri Try.prog 17 #[rv] R [] (fun v__ post__ => ∃ (b : Bool), v__ = (Value.bool b) ∧ post__ = [] ∧ (b = true → L.length ≤ 2147483647)) := by
  refine Tri.into (n := 18) (al := [rv]) Try.func17 rfl Try.ntmps17 rfl rfl fun w F H => ?_
  replace H : Holds w (ro R :: F) := H
  refine C_seq (fun K1_ hK1_ => ?_)
  refine C_reg ?_
  refine S_list (T_val (v := (Value.bool false)) (x_assign rfl) ?_)
  refine wpList_nil ?_
  refine (X_then (hK1_ _ _ ?_))
  clear hK1_
  refine C_seq (fun K2_ hK2_ => ?_)
  refine C_seq (fun K3_ hK3_ => ?_)
  refine C_reg ?_
  refine S_list (T_val (v := rv) (x_move rfl) ?_)
  refine S_list (T_val (v := (Value.int .i64 (L.length : Int))) (x_lenRS rfl hL Try.underlying49) ?_)
  refine S_list (T_val (v := (Value.bool (decide (2147483647 < (L.length : Int))))) (x_bin rfl rfl rfl) ?_)
  refine wpList_nil ?_
  refine (X_then (hK3_ _ _ ?_))
  clear hK3_
  refine C_cond (b := decide (2147483647 < (L.length : Int))) rfl (fun c4_t => ?_) (fun c4_f => ?_)
  · have c4_tp : 2147483647 < (L.length : Int) := of_decide_eq_true c4_t
    refine C_seq (fun K5_ hK5_ => ?_)
    refine C_reg ?_
    refine S_list (T_val (v := (Value.bool false)) (x_assign rfl) ?_)
    refine wpList_nil ?_
    refine (X_then (hK5_ _ _ ?_))
    clear hK5_
    refine C_ret (X_thenR ?_)
    refine R_any (v := (Value.bool false)) (run_results1 rfl rfl) ?_
    exact ⟨_, [], rfl, ⟨false, rfl, rfl, (fun h => by first | omega | (cases h; done))⟩, (Same.refl w), H⟩
  · have c4_fp : ¬ (2147483647 < (L.length : Int)) := of_decide_eq_false c4_f
    refine C_skip (X_then (hK2_ _ _ ?_))
    clear hK2_
    refine C_seq (fun K6_ hK6_ => ?_)
    refine C_seq (fun K7_ hK7_ => ?_)
    refine C_reg ?_
    refine S_list (T_val (v := rv) (x_move rfl) ?_)
    refine S_list (T_val (v := (Value.int .i64 (L.length : Int))) (x_lenRS rfl hL Try.underlying49) ?_)
    refine S_list (T_val (v := (Value.int .i64 0)) (x_move rfl) ?_)
    refine wpList_nil ?_
    refine (X_then (hK7_ _ _ ?_))
    clear hK7_
    refine C_block ?_
    refine C_loop (γ := Nat × Bool) (fun x a w1 => match x with | ⟨k, t2_v⟩ => ∃ h : Env, a = mkA 18 (upd (upd (upd (upd h 2 (Value.bool t2_v)) 8 rv) 9 (Value.int .i64 (L.length : Int))) 10 (Value.int .i64 (k : Int))) [] ∧ Holds w1 (ro R :: F) ∧ Same w w1 ∧ (k ≤ L.length)) (fun x => match x with | ⟨k, t2_v⟩ => L.length - k) (⟨0, false⟩) ⟨_, congrArg (fun e => mkA 18 e []) (ch (ch (ch (ch rfl rfl) rfl) rfl) (congrArg (Value.int .i64) ((by first | rfl | omega | (simp; done) | (simp; omega)) : 0 = (0 : Int)))), H, (Same.refl w), (by first | assumption | omega | exact rfl)⟩ ?_
    rintro ⟨k, t2_v⟩ _ w8_ ⟨h, rfl, H9_, S10_, hk⟩
    refine C_seq (fun K11_ hK11_ => ?_)
    refine C_reg ?_
    refine S_list (T_val (v := (Value.bool (decide ((k : Int) < (L.length : Int))))) (x_bin rfl rfl rfl) ?_)
    refine wpList_nil ?_
    refine (X_then (hK11_ _ _ ?_))
    clear hK11_
    refine C_seq (fun K12_ hK12_ => ?_)
    refine C_cond (b := decide ((k : Int) < (L.length : Int))) rfl (fun c13_t => ?_) (fun c13_f => ?_)
    · have c13_tp : (k : Int) < (L.length : Int) := of_decide_eq_true c13_t
      refine C_skip (X_then (hK12_ _ _ ?_))
      clear hK12_
      refine C_seq (fun K14_ hK14_ => ?_)
      refine C_block ?_
      refine C_seq (fun K15_ hK15_ => ?_)
      refine C_reg ?_
      obtain ⟨x16_, hx17_, hm18_⟩ := elem_at L k (by omega)
      refine S_list (T_val (v := (Value.pointer (some ⟨(sb rv), so rv + (k * 6 + 0), none⟩))) (x_idxRS (v := rv) rfl hL rfl Try.underlying49 z63 (by omega) (by omega) (by omega : _ = k) rfl) ?_)
      refine S_list (T_val (v := (Value.agg #[(Value.int .i64 x16_.type_), (Value.bool x16_.hasType), (Value.int .u32 x16_.crc), (Value.bool x16_.hasCrc), (Value.string x16_.data), (Value.bool x16_.hasData)])) (x_loadN (vs := [(Value.int .i64 x16_.type_), (Value.bool x16_.hasType), (Value.int .u32 x16_.crc), (Value.bool x16_.hasCrc), (Value.string x16_.data), (Value.bool x16_.hasData)]) rfl Try.underlying63 rfl z63 rfl (RC.cells (RS.rc hL) (Holds.ro_at H9_ 0 rfl) (k * 6 + 0) (fm_cells WR.len hx17_ (i := 0) rfl))) ?_)
      refine S_list (T_alloc z63 H9_ ?_)
      intro b19_ w20_ S22_ H21_
      replace H21_ : Holds w20_ (cl b19_ 63 [(Value.int .i64 0), (Value.bool false), (Value.int .u32 0), (Value.bool false), (Value.string ByteArray.empty), (Value.bool false)] :: ro R :: F) := H21_
      have S23_ := Same.trans S10_ S22_
      refine S_list0 (T_storeN (vs := [(Value.int .i64 x16_.type_), (Value.bool x16_.hasType), (Value.int .u32 x16_.crc), (Value.bool x16_.hasCrc), (Value.string x16_.data), (Value.bool x16_.hasData)]) rfl rfl z63 rfl (by simp [Value.oneCell']) H21_ 0 rfl (Nat.le_of_ble_eq_true (by rfl)) ?_)
      intro w24_ S26_ H25_
      replace H25_ : Holds w24_ (cl b19_ 63 [(Value.int .i64 x16_.type_), (Value.bool x16_.hasType), (Value.int .u32 x16_.crc), (Value.bool x16_.hasCrc), (Value.string x16_.data), (Value.bool x16_.hasData)] :: ro R :: F) := H25_
      have S27_ := Same.trans S23_ S26_
      refine wpList_nil ?_
      refine (X_then (hK15_ _ _ ?_))
      clear hK15_
      refine C_seq (fun K28_ hK28_ => ?_)
      refine C_reg ?_
      refine S_list (T_val (v := (Value.agg #[(Value.int .i64 x16_.type_), (Value.bool x16_.hasType), (Value.int .u32 x16_.crc), (Value.bool x16_.hasCrc), (Value.string x16_.data), (Value.bool x16_.hasData)])) (x_loadN (vs := [(Value.int .i64 x16_.type_), (Value.bool x16_.hasType), (Value.int .u32 x16_.crc), (Value.bool x16_.hasCrc), (Value.string x16_.data), (Value.bool x16_.hasData)]) rfl Try.underlying63 rfl z63 rfl (Rd.cells (Holds.rd H25_ 0 rfl) 0 rfl)) ?_)
      refine S_list (T_callW (al := [(Value.agg #[(Value.int .i64 x16_.type_), (Value.bool x16_.hasType), (Value.int .u32 x16_.crc), (Value.bool x16_.hasCrc), (Value.string x16_.data), (Value.bool x16_.hasData)])]) rfl rfl cb44 (Calls.into (n := 7) (al := [(Value.agg #[(Value.int .i64 x16_.type_), (Value.bool x16_.hasType), (Value.int .u32 x16_.crc), (Value.bool x16_.hasCrc), (Value.string x16_.data), (Value.bool x16_.hasData)])]) Try.func44 rfl Try.ntmps44 rfl rfl ?_))
      refine C_seq (fun K29_ hK29_ => ?_)
      refine C_reg ?_
      refine S_list (T_box (v := (Value.agg #[(Value.int .i64 x16_.type_), (Value.bool x16_.hasType), (Value.int .u32 x16_.crc), (Value.bool x16_.hasCrc), (Value.string x16_.data), (Value.bool x16_.hasData)])) rfl H25_ ?_)
      intro b30_ w31_ S33_ H32_
      replace H32_ : Holds w31_ (cl b30_ 63 [(Value.int .i64 x16_.type_), (Value.bool x16_.hasType), (Value.int .u32 x16_.crc), (Value.bool x16_.hasCrc), (Value.string x16_.data), (Value.bool x16_.hasData)] :: cl b19_ 63 [(Value.int .i64 x16_.type_), (Value.bool x16_.hasType), (Value.int .u32 x16_.crc), (Value.bool x16_.hasCrc), (Value.string x16_.data), (Value.bool x16_.hasData)] :: ro R :: F) := H32_
      have S34_ := Same.trans S27_ S33_
      refine S_list (T_val (v := (Value.bool false)) (x_assign rfl) ?_)
      refine wpList_nil ?_
      refine (X_then (hK29_ _ _ ?_))
      clear hK29_
      refine C_seq (fun K35_ hK35_ => ?_)
      refine C_seq (fun K36_ hK36_ => ?_)
      refine C_reg ?_
      refine S_list (T_val (v := (Value.pointer (some ⟨b30_, 4, none⟩))) (by kernel_rfl) ?_)
      refine S_list (T_val (v := (Value.string x16_.data)) (x_load1 rfl Try.underlying9 rfl ((Holds.rd H32_ 0 rfl) 4 (Value.string x16_.data) rfl)) ?_)
      refine S_list (T_val (v := (Value.int .i64 (x16_.data.size : Int))) (x_lenT rfl Try.underlying9) ?_)
      refine S_list (T_val (v := (Value.bool (decide (2147483647 < (x16_.data.size : Int))))) (x_bin rfl rfl rfl) ?_)
      refine wpList_nil ?_
      refine (X_then (hK36_ _ _ ?_))
      clear hK36_
      refine C_cond (b := decide (2147483647 < (x16_.data.size : Int))) rfl (fun c37_t => ?_) (fun c37_f => ?_)
      · have c37_tp : 2147483647 < (x16_.data.size : Int) := of_decide_eq_true c37_t
        refine C_seq (fun K38_ hK38_ => ?_)
        refine C_reg ?_
        refine S_list (T_val (v := (Value.bool false)) (x_assign rfl) ?_)
        refine wpList_nil ?_
        refine (X_then (hK38_ _ _ ?_))
        clear hK38_
        refine C_ret (X_thenR ?_)
        refine R_any (v := (Value.bool false)) (run_results1 rfl rfl) ⟨_, rfl, ?_⟩
        refine S_list (T_val (v := (Value.bool true)) (x_cast (x_not (b := false) rfl) rfl) ?_)
        refine wpList_nil ?_
        refine (X_then (hK28_ _ _ ?_))
        clear hK28_
        refine C_condT rfl ?_
        refine C_seq (fun K39_ hK39_ => ?_)
        refine C_reg ?_
        refine S_list (T_val (v := (Value.bool false)) (x_assign rfl) ?_)
        refine wpList_nil ?_
        refine (X_then (hK39_ _ _ ?_))
        clear hK39_
        refine C_ret (X_blkR (X_thenR (X_thenR (X_blkR (X_thenR ?_)))))
        refine R_any (v := (Value.bool false)) (run_results1 rfl rfl) ?_
        have H40_ : Holds w31_ (ro R :: F) := (Holds.erase (Holds.erase (Holds.bring H32_ 2 rfl) 1) 1)
        exact ⟨_, [], rfl, ⟨false, rfl, rfl, (fun h => by first | omega | (cases h; done))⟩, S34_, H40_⟩
      · have c37_fp : ¬ (2147483647 < (x16_.data.size : Int)) := of_decide_eq_false c37_f
        refine C_skip (X_then (hK35_ _ _ ?_))
        clear hK35_
        refine C_seq (fun K41_ hK41_ => ?_)
        refine C_reg ?_
        refine S_list (T_val (v := (Value.bool true)) (x_assign rfl) ?_)
        refine wpList_nil ?_
        refine (X_then (hK41_ _ _ ?_))
        clear hK41_
        refine C_ret ?_
        refine R_any (v := (Value.bool true)) (run_results1 rfl rfl) ⟨_, rfl, ?_⟩
        refine S_list (T_val (v := (Value.bool false)) (x_cast (x_not (b := true) rfl) rfl) ?_)
        refine wpList_nil ?_
        refine (X_then (hK28_ _ _ ?_))
        clear hK28_
        refine C_condF rfl ?_
        refine C_skip (X_blkN (X_then (hK14_ _ _ ?_)))
        clear hK14_
        refine C_reg ?_
        refine S_list (T_val (v := (Value.int .i64 ((k : Int) + 1))) (x_bin rfl rfl (ib_add (IntWalk.i64_in _ (by omega)))) ?_)
        refine S_list (T_val (v := (Value.int .i64 ((k : Int) + 1))) (x_move rfl) ?_)
        refine wpList_nil ?_
        refine (X_then ?_)
        have H42_ : Holds w31_ (ro R :: F) := (Holds.erase (Holds.erase (Holds.bring H32_ 2 rfl) 1) 1)
        exact ⟨⟨k + 1, t2_v⟩, ⟨_, congrArg (fun e => mkA 18 e []) (ch (ch (ch (ch rfl rfl) rfl) rfl) (congrArg (Value.int .i64) ((by first | rfl | omega | (simp; done) | (simp; omega)) : (k : Int) + 1 = ((k + 1 : Nat) : Int)))), H42_, S34_, (by first | assumption | omega | exact rfl)⟩, by first | omega | (dsimp only; omega) | (simp; omega)⟩
    · have c13_fp : ¬ ((k : Int) < (L.length : Int)) := of_decide_eq_false c13_f
      refine C_exit (X_thenX (X_thenX (X_blkHit ?_)))
      refine (X_then (hK6_ _ _ ?_))
      clear hK6_
      refine C_seq (fun K43_ hK43_ => ?_)
      refine C_reg ?_
      refine S_list (T_val (v := (Value.bool true)) (x_assign rfl) ?_)
      refine wpList_nil ?_
      refine (X_then (hK43_ _ _ ?_))
      clear hK43_
      refine C_ret ?_
      refine R_any (v := (Value.bool true)) (run_results1 rfl rfl) ?_
      exact ⟨_, [], rfl, ⟨true, rfl, rfl, (fun h => by first | omega | (cases h; done))⟩, S10_, H9_⟩
end Go.Proofs.Ytgeggiebefonhaa
