/- What a writer of pages does: a new one. -/
import Derived.Test.YtfdnfnjmphjdnaaPgB0
set_option linter.unusedVariables false
set_option linter.unusedSimpArgs false
namespace Go.Proofs.Ytfdnfnjmphjdnaa
open Go Go.RowKit Gw

set_option maxHeartbeats 400000 in
theorem kNew (R : HP) (bl page wm po : Nat) (h1 : 0 < page) (h2 : page ≤ 65536) (h4 : wm ≤ 1048576) :
    Tri Try.prog 54 #[(Value.iface 89 (Value.pointer (some ⟨bl, 0, none⟩))), (Value.int .i64 (wm : Int)), (Value.int .i64 (page : Int)), (Value.int .i64 (po : Int))] R [] (fun v post => ∃ pw bb : Nat, v = .pointer (some ⟨pw, 0, none⟩) ∧ post = [cl pw 142 [(Value.iface 89 (Value.pointer (some ⟨bl, 0, none⟩))), (Value.int .i64 (po : Int)), (Value.int .i64 (page : Int)), (Value.int .i64 0), (Value.slice (some ⟨bb, 0, none⟩) (wm + page) (wm + page)), (Value.int .i64 (wm : Int))], cl bb 5 (bytesV [] ++ List.replicate (wm + page) (Value.int IntKind.u8 0))]) := by
  refine Tri.into (n := 26) (al := [(Value.iface 89 (Value.pointer (some ⟨bl, 0, none⟩))), (Value.int .i64 (wm : Int)), (Value.int .i64 (page : Int)), (Value.int .i64 (po : Int))]) Try.func54 rfl Try.ntmps54 rfl rfl fun w F H => ?_
  replace H : Holds w (ro R :: F) := H
  refine C_seq (fun K1_ hK1_ => ?_)
  refine C_reg ?_
  refine S_list (T_val (v := (Value.pointer none)) (x_assign rfl) ?_)
  refine wpList_nil ?_
  refine (X_then (hK1_ _ _ ?_))
  clear hK1_
  refine C_seq (fun K2_ hK2_ => ?_)
  refine C_reg ?_
  refine S_list (T_val (v := (Value.iface 89 (Value.pointer (some ⟨bl, 0, none⟩)))) (x_move rfl) ?_)
  refine S_list (T_val (v := (Value.int .i64 (page : Int))) (x_move rfl) ?_)
  refine S_list (T_val (v := (Value.int .i64 (po : Int))) (x_move rfl) ?_)
  refine S_list (T_callW (al := [(Value.iface 89 (Value.pointer (some ⟨bl, 0, none⟩))), (Value.int .i64 (page : Int)), (Value.int .i64 (po : Int))]) rfl rfl cb69 (Calls.into (n := 20) (al := [(Value.iface 89 (Value.pointer (some ⟨bl, 0, none⟩))), (Value.int .i64 (page : Int)), (Value.int .i64 (po : Int))]) Try.func69 rfl Try.ntmps69 rfl rfl ?_))
  refine C_seq (fun K3_ hK3_ => ?_)
  refine C_reg ?_
  refine S_list (T_val (v := (Value.pointer none)) (x_assign rfl) ?_)
  refine wpList_nil ?_
  refine (X_then (hK3_ _ _ ?_))
  clear hK3_
  refine C_seq (fun K4_ hK4_ => ?_)
  refine C_reg ?_
  refine S_list (T_val (v := (Value.int .i64 (page : Int))) (x_move rfl) ?_)
  refine S_list (T_val (v := (Value.bool (decide (0 < (page : Int))))) (x_bin rfl rfl rfl) ?_)
  refine S_list (T_val (v := (Value.int .i64 (page : Int))) (x_move rfl) ?_)
  refine S_list (T_new (obj := .cells #[(Value.int .i64 (page : Int))] 3) (f := fun b => .slice (some ⟨b, 0, none⟩) 1 1) (A := fun b => cl b 3 [(Value.int .i64 (page : Int))]) (by kernel_rfl) (fun l h => h.alloc _ _) H ?_)
  intro b5_ w6_ S8_ H7_
  replace H7_ : Holds w6_ (cl b5_ 3 [(Value.int .i64 (page : Int))] :: ro R :: F) := H7_
  have S9_ := Same.trans (Same.refl w) S8_
  refine S_list (T_callW (al := [(Value.bool (decide (0 < (page : Int)))), (Value.string (ByteArray.mk #[105, 110, 118, 97, 108, 105, 100, 32, 112, 97, 103, 101, 66, 121, 116, 101, 115, 32, 40, 37, 100, 41, 32, 118, 97, 108, 117, 101, 44, 32, 105, 116, 32, 109, 117, 115, 116, 32, 98, 101, 32, 103, 114, 101, 97, 116, 101, 114, 32, 116, 104, 97, 110, 32, 48])), (Value.slice (some ⟨b5_, 0, none⟩) 1 1)]) rfl rfl cb76 (Calls.into (n := 10) (al := [(Value.bool (decide (0 < (page : Int)))), (Value.string (ByteArray.mk #[105, 110, 118, 97, 108, 105, 100, 32, 112, 97, 103, 101, 66, 121, 116, 101, 115, 32, 40, 37, 100, 41, 32, 118, 97, 108, 117, 101, 44, 32, 105, 116, 32, 109, 117, 115, 116, 32, 98, 101, 32, 103, 114, 101, 97, 116, 101, 114, 32, 116, 104, 97, 110, 32, 48])), (Value.slice (some ⟨b5_, 0, none⟩) 1 1)]) Try.func76 rfl Try.ntmps76 rfl rfl ?_))
  refine C_seq (fun K10_ hK10_ => ?_)
  refine C_reg ?_
  refine S_list (T_val (v := (Value.bool (decide (0 < (page : Int))))) (x_move rfl) ?_)
  refine S_list (T_val (v := (Value.bool (decide (¬ (0 < (page : Int)))))) (x_notP rfl) ?_)
  refine wpList_nil ?_
  refine (X_then (hK10_ _ _ ?_))
  clear hK10_
  refine C_cond (b := decide (¬ (0 < (page : Int)))) rfl (fun c11_t => ?_) (fun c11_f => ?_)
  · have c11_tp : ¬ (0 < (page : Int)) := of_decide_eq_true c11_t
    omega
  · have c11_fp : ¬ (¬ (0 < (page : Int))) := of_decide_eq_false c11_f
    refine C_skip ?_
    refine R_0 rfl ⟨_, rfl, ?_⟩
    refine wpList_nil ?_
    refine (X_then (hK4_ _ _ ?_))
    clear hK4_
    refine C_seq (fun K12_ hK12_ => ?_)
    refine C_reg ?_
    refine S_list (T_val (v := (Value.iface 89 (Value.pointer (some ⟨bl, 0, none⟩)))) (x_move rfl) ?_)
    refine S_list (T_val (v := (Value.int .i64 (po : Int))) (x_move rfl) ?_)
    refine S_list (T_val (v := (Value.int .i64 (page : Int))) (x_move rfl) ?_)
    refine S_list (T_val (v := (Value.int .i64 (page : Int))) (x_move rfl) ?_)
    refine S_list (T_val (v := (Value.int .i64 (131072 + (page : Int)))) (x_bin rfl rfl (ib_add (IntWalk.i64_in _ (by omega)))) ?_)
    refine S_list (T_makeSlice1 (len := (131072 + (page : Int)).toNat) (cap := (131072 + (page : Int)).toNat) rfl rfl Try.underlying25 z5 rfl (by omega) (by omega) (by omega) (by omega) (by omega) H7_ ?_)
    intro b13_ w14_ S16_ H15_
    replace H15_ : Holds w14_ (cl b13_ 5 (List.replicate ((131072 + (page : Int)).toNat) (Value.int .u8 0)) :: cl b5_ 3 [(Value.int .i64 (page : Int))] :: ro R :: F) := H15_
    have S17_ := Same.trans S9_ S16_
    refine S_list (T_val (v := (Value.agg #[(Value.iface 89 (Value.pointer (some ⟨bl, 0, none⟩))), (Value.int .i64 (po : Int)), (Value.int .i64 (page : Int)), (Value.int .i64 0), (Value.slice (some ⟨b13_, 0, none⟩) ((131072 + (page : Int)).toNat) ((131072 + (page : Int)).toNat)), (Value.int .i64 131072)])) (by kernel_rfl) ?_)
    refine S_list (T_box (v := (Value.agg #[(Value.iface 89 (Value.pointer (some ⟨bl, 0, none⟩))), (Value.int .i64 (po : Int)), (Value.int .i64 (page : Int)), (Value.int .i64 0), (Value.slice (some ⟨b13_, 0, none⟩) ((131072 + (page : Int)).toNat) ((131072 + (page : Int)).toNat)), (Value.int .i64 131072)])) rfl H15_ ?_)
    intro b18_ w19_ S21_ H20_
    replace H20_ : Holds w19_ (cl b18_ 142 [(Value.iface 89 (Value.pointer (some ⟨bl, 0, none⟩))), (Value.int .i64 (po : Int)), (Value.int .i64 (page : Int)), (Value.int .i64 0), (Value.slice (some ⟨b13_, 0, none⟩) ((131072 + (page : Int)).toNat) ((131072 + (page : Int)).toNat)), (Value.int .i64 131072)] :: cl b13_ 5 (List.replicate ((131072 + (page : Int)).toNat) (Value.int .u8 0)) :: cl b5_ 3 [(Value.int .i64 (page : Int))] :: ro R :: F) := H20_
    have S22_ := Same.trans S17_ S21_
    refine S_list (T_val (v := (Value.pointer (some ⟨b18_, 0, none⟩))) (x_assign rfl) ?_)
    refine wpList_nil ?_
    refine (X_then (hK12_ _ _ ?_))
    clear hK12_
    refine C_ret ?_
    refine R_any (v := (Value.pointer (some ⟨b18_, 0, none⟩))) (run_results1 rfl rfl) ⟨_, rfl, ?_⟩
    refine S_list (T_val (v := (Value.pointer (some ⟨b18_, 0, none⟩))) (x_assign rfl) ?_)
    refine wpList_nil ?_
    refine (X_then (hK2_ _ _ ?_))
    clear hK2_
    refine C_seq (fun K23_ hK23_ => ?_)
    refine C_reg ?_
    refine S_list (T_val (v := (Value.pointer (some ⟨b18_, 0, none⟩))) (x_move rfl) ?_)
    refine S_list (T_val (v := (Value.int .i64 (wm : Int))) (x_move rfl) ?_)
    refine S_list (T_val (v := (Value.int .i64 (page : Int))) (x_move rfl) ?_)
    refine S_list (T_val (v := (Value.int .i64 ((wm + page : Nat) : Int))) (x_bin rfl rfl (ib_addN (x := wm) (y := page) rfl rfl (by omega) rfl)) ?_)
    refine S_list (T_makeSlice1 (len := (wm + page)) (cap := (wm + page)) rfl rfl Try.underlying25 z5 rfl (by omega) (by omega) (by omega) (by omega) (by omega) H20_ ?_)
    intro b24_ w25_ S27_ H26_
    replace H26_ : Holds w25_ (cl b24_ 5 (List.replicate (wm + page) (Value.int .u8 0)) :: cl b18_ 142 [(Value.iface 89 (Value.pointer (some ⟨bl, 0, none⟩))), (Value.int .i64 (po : Int)), (Value.int .i64 (page : Int)), (Value.int .i64 0), (Value.slice (some ⟨b13_, 0, none⟩) ((131072 + (page : Int)).toNat) ((131072 + (page : Int)).toNat)), (Value.int .i64 131072)] :: cl b13_ 5 (List.replicate ((131072 + (page : Int)).toNat) (Value.int .u8 0)) :: cl b5_ 3 [(Value.int .i64 (page : Int))] :: ro R :: F) := H26_
    have S28_ := Same.trans S22_ S27_
    refine S_list (T_val (v := (Value.pointer (some ⟨b18_, 0, none⟩))) (by kernel_rfl) ?_)
    refine S_list (T_val (v := (Value.pointer (some ⟨b18_, 4, none⟩))) (by kernel_rfl) ?_)
    refine S_list0 (T_store1 (v := (Value.slice (some ⟨b24_, 0, none⟩) (wm + page) (wm + page))) rfl rfl z25 rfl H26_ 1 rfl (Nat.le_of_ble_eq_true (by rfl)) ?_)
    intro w29_ S31_ H30_
    replace H30_ : Holds w29_ (cl b24_ 5 (List.replicate (wm + page) (Value.int .u8 0)) :: cl b18_ 142 [(Value.iface 89 (Value.pointer (some ⟨bl, 0, none⟩))), (Value.int .i64 (po : Int)), (Value.int .i64 (page : Int)), (Value.int .i64 0), (Value.slice (some ⟨b24_, 0, none⟩) (wm + page) (wm + page)), (Value.int .i64 131072)] :: cl b13_ 5 (List.replicate ((131072 + (page : Int)).toNat) (Value.int .u8 0)) :: cl b5_ 3 [(Value.int .i64 (page : Int))] :: ro R :: F) := H30_
    have S32_ := Same.trans S28_ S31_
    refine wpList_nil ?_
    refine (X_then (hK23_ _ _ ?_))
    clear hK23_
    refine C_seq (fun K33_ hK33_ => ?_)
    refine C_reg ?_
    refine S_list (T_val (v := (Value.pointer (some ⟨b18_, 0, none⟩))) (x_move rfl) ?_)
    refine S_list (T_val (v := (Value.int .i64 (wm : Int))) (x_move rfl) ?_)
    refine S_list (T_val (v := (Value.pointer (some ⟨b18_, 0, none⟩))) (by kernel_rfl) ?_)
    refine S_list (T_val (v := (Value.pointer (some ⟨b18_, 5, none⟩))) (by kernel_rfl) ?_)
    refine S_list0 (T_store1 (v := (Value.int .i64 (wm : Int))) rfl rfl z3 rfl H30_ 1 rfl (Nat.le_of_ble_eq_true (by rfl)) ?_)
    intro w34_ S36_ H35_
    replace H35_ : Holds w34_ (cl b24_ 5 (List.replicate (wm + page) (Value.int .u8 0)) :: cl b18_ 142 [(Value.iface 89 (Value.pointer (some ⟨bl, 0, none⟩))), (Value.int .i64 (po : Int)), (Value.int .i64 (page : Int)), (Value.int .i64 0), (Value.slice (some ⟨b24_, 0, none⟩) (wm + page) (wm + page)), (Value.int .i64 (wm : Int))] :: cl b13_ 5 (List.replicate ((131072 + (page : Int)).toNat) (Value.int .u8 0)) :: cl b5_ 3 [(Value.int .i64 (page : Int))] :: ro R :: F) := H35_
    have S37_ := Same.trans S32_ S36_
    refine wpList_nil ?_
    refine (X_then (hK33_ _ _ ?_))
    clear hK33_
    refine C_seq (fun K38_ hK38_ => ?_)
    refine C_reg ?_
    refine S_list (T_val (v := (Value.pointer (some ⟨b18_, 0, none⟩))) (x_move rfl) ?_)
    refine S_list (T_val (v := (Value.pointer (some ⟨b18_, 0, none⟩))) (x_assign rfl) ?_)
    refine wpList_nil ?_
    refine (X_then (hK38_ _ _ ?_))
    clear hK38_
    refine C_ret ?_
    refine R_any (v := (Value.pointer (some ⟨b18_, 0, none⟩))) (run_results1 rfl rfl) ?_
    have H39_ : Holds w34_ (cl b24_ 5 (bytesV [] ++ List.replicate (wm + page) (Value.int IntKind.u8 0)) :: cl b18_ 142 [(Value.iface 89 (Value.pointer (some ⟨bl, 0, none⟩))), (Value.int .i64 (po : Int)), (Value.int .i64 (page : Int)), (Value.int .i64 0), (Value.slice (some ⟨b24_, 0, none⟩) (wm + page) (wm + page)), (Value.int .i64 (wm : Int))] :: cl b13_ 5 (List.replicate ((131072 + (page : Int)).toNat) (Value.int .u8 0)) :: cl b5_ 3 [(Value.int .i64 (page : Int))] :: ro R :: F) := cast1 (P := fun (c__ : List Value) => Holds w34_ (cl b24_ 5 c__ :: cl b18_ 142 [(Value.iface 89 (Value.pointer (some ⟨bl, 0, none⟩))), (Value.int .i64 (po : Int)), (Value.int .i64 (page : Int)), (Value.int .i64 0), (Value.slice (some ⟨b24_, 0, none⟩) (wm + page) (wm + page)), (Value.int .i64 (wm : Int))] :: cl b13_ 5 (List.replicate ((131072 + (page : Int)).toNat) (Value.int .u8 0)) :: cl b5_ 3 [(Value.int .i64 (page : Int))] :: ro R :: F)) (rfl : List.replicate (wm + page) (Value.int .u8 0) = bytesV [] ++ List.replicate (wm + page) (Value.int IntKind.u8 0)) H35_
    have H40_ : Holds w34_ (ro R :: cl b18_ 142 [(Value.iface 89 (Value.pointer (some ⟨bl, 0, none⟩))), (Value.int .i64 (po : Int)), (Value.int .i64 (page : Int)), (Value.int .i64 0), (Value.slice (some ⟨b24_, 0, none⟩) (wm + page) (wm + page)), (Value.int .i64 (wm : Int))] :: cl b24_ 5 (bytesV [] ++ List.replicate (wm + page) (Value.int IntKind.u8 0)) :: F) := (Holds.erase (Holds.erase (Holds.bring (Holds.bring (Holds.bring H39_ 0 rfl) 1 rfl) 4 rfl) 3) 3)
    exact ⟨_, [cl b18_ 142 [(Value.iface 89 (Value.pointer (some ⟨bl, 0, none⟩))), (Value.int .i64 (po : Int)), (Value.int .i64 (page : Int)), (Value.int .i64 0), (Value.slice (some ⟨b24_, 0, none⟩) (wm + page) (wm + page)), (Value.int .i64 (wm : Int))], cl b24_ 5 (bytesV [] ++ List.replicate (wm + page) (Value.int IntKind.u8 0))], rfl, ⟨b18_, b24_, rfl, rfl⟩, S37_, H40_⟩
end Go.Proofs.Ytfdnfnjmphjdnaa
