/- What the encoder of records does: one record. -/
import Derived.Test.YtgeggiebefonhaaWaH0
import Derived.Test.YtgeggiebefonhaaGwU
set_option linter.unusedVariables false
set_option linter.unusedSimpArgs false
namespace Go.Proofs.Ytgeggiebefonhaa
open Go Go.RowKit Gw

theorem wbody_len (ty sum : Int) (has : Bool) (ds : List Int) : (wbody ty sum has ds).length ≤ 50 + ds.length := by
  have h1 := vi_len ty
  have h2 := vi_len sum
  have h3 := vi_len ds.length
  unfold wbody
  cases has <;> simp only [List.length_append, List.length_cons, List.length_nil, if_true, if_false, Bool.false_eq_true] <;> omega
theorem frame_bytes {b : List Int} (h : b.length < 1099511627776) : le8 (lenField b.length) ++ (b ++ List.replicate (wpad b.length) 0) = wframe b := by
  rw [frame_eq h]; simp [wframe]

set_option maxHeartbeats 400000 in
theorem wEncNil (R : HP) (en cb ub rb tb : Nat) (n ty : Int) (c0 c1 c2 c3 c4 c5 c6 c7 : Value) (pw bb pg po : Nat) (pd : List Int) (junk : List Value) (V : Value) (os : List Int) (q0 : po ≤ 2097152) (hj : pd.length + junk.length = 135168) (q2 : os.length + pd.length ≤ 60000000) (hinv : pd.length + (4096 - (po + pd.length) % 4096) ≤ 135168) :
    Tri Try.prog 75 #[(Value.pointer (some ⟨en, 0, none⟩)), (Value.pointer (some ⟨rb, 0, none⟩))] R [cl en 216 [(Value.pointer (some ⟨pw, 0, none⟩)), (Value.pointer (some ⟨cb, 0, none⟩)), (Value.slice (some ⟨ub, 0, none⟩) 8 8)], cl cb 244 [(Value.int .u32 n)], cl ub 5 [c0, c1, c2, c3, c4, c5, c6, c7], cl rb 106 [(Value.pointer (some ⟨tb, 0, none⟩)), (Value.pointer none), (Value.slice none 0 0)], cl tb 2 [(Value.int .i64 ty)], cl pw 255 [(Value.iface 95 (Value.pointer (some ⟨pg, 0, none⟩))), (Value.int .i64 (po : Int)), (Value.int .i64 4096), (Value.int .i64 (pd.length : Int)), (Value.slice (some ⟨bb, 0, none⟩) 135168 135168), (Value.int .i64 131072)], cl bb 5 (bytesV pd ++ junk), cl pg 97 [V], sl 5 1 V (List.length os) (bytesV os)] (fun v__ post__ => ∃ (c0' c1' c2' c3' c4' c5' c6' c7' : Value) (po' : Nat) (pd' : List Int) (junk' : List Value) (V' : Value) (os' : List Int), v__ = (Value.nilIface) ∧ post__ = [cl en 216 [(Value.pointer (some ⟨pw, 0, none⟩)), (Value.pointer (some ⟨cb, 0, none⟩)), (Value.slice (some ⟨ub, 0, none⟩) 8 8)], cl cb 244 [(Value.int .u32 (crc n ([] : List Int)))], cl ub 5 [c0', c1', c2', c3', c4', c5', c6', c7'], cl pw 255 [(Value.iface 95 (Value.pointer (some ⟨pg, 0, none⟩))), (Value.int .i64 (po' : Int)), (Value.int .i64 4096), (Value.int .i64 (pd'.length : Int)), (Value.slice (some ⟨bb, 0, none⟩) 135168 135168), (Value.int .i64 131072)], cl bb 5 (bytesV pd' ++ junk'), cl pg 97 [V'], sl 5 1 V' (List.length os') (bytesV os')] ∧ (po' ≤ 2097152) ∧ (pd'.length + junk'.length = 135168) ∧ (pd'.length + (4096 - (po' + pd'.length) % 4096) ≤ 135168) ∧ (os' ++ pd' = os ++ pd ++ wframe (wbody ty (crc n ([] : List Int)) false ([] : List Int)))) := by
  have hbl := wbody_len ty (crc n ([] : List Int)) false ([] : List Int)
  have hp8 : wpad (wbody ty (crc n ([] : List Int)) false ([] : List Int)).length < 8 := Nat.mod_lt _ (by omega)
  have hl0 : ([] : List Int).length = 0 := rfl
  refine Tri.intoN (n := 65) (al := [(Value.pointer (some ⟨en, 0, none⟩)), (Value.pointer (some ⟨rb, 0, none⟩))]) Try.func75 rfl Try.ntmps75 rfl rfl fun w F H => ?_
  replace H : Holds w (ro R :: cl en 216 [(Value.pointer (some ⟨pw, 0, none⟩)), (Value.pointer (some ⟨cb, 0, none⟩)), (Value.slice (some ⟨ub, 0, none⟩) 8 8)] :: cl cb 244 [(Value.int .u32 n)] :: cl ub 5 [c0, c1, c2, c3, c4, c5, c6, c7] :: cl rb 106 [(Value.pointer (some ⟨tb, 0, none⟩)), (Value.pointer none), (Value.slice none 0 0)] :: cl tb 2 [(Value.int .i64 ty)] :: cl pw 255 [(Value.iface 95 (Value.pointer (some ⟨pg, 0, none⟩))), (Value.int .i64 (po : Int)), (Value.int .i64 4096), (Value.int .i64 (pd.length : Int)), (Value.slice (some ⟨bb, 0, none⟩) 135168 135168), (Value.int .i64 131072)] :: cl bb 5 (bytesV pd ++ junk) :: cl pg 97 [V] :: sl 5 1 V (List.length os) (bytesV os) :: F) := H
  refine C_seq (fun K1_ hK1_ => ?_)
  refine C_reg ?_
  refine S_list (T_val (v := (Value.nilIface)) (x_assign rfl) ?_)
  refine wpList_nil ?_
  refine (X_then (hK1_ _ _ ?_))
  clear hK1_
  refine C_seq (fun K2_ hK2_ => ?_)
  refine C_seq (fun K3_ hK3_ => ?_)
  refine C_reg ?_
  refine S_list (T_val (v := (Value.pointer (some ⟨rb, 0, none⟩))) (x_move rfl) ?_)
  refine S_list (T_val (v := (Value.pointer (some ⟨rb, 0, none⟩))) (by kernel_rfl) ?_)
  refine S_list (T_val (v := (Value.pointer (some ⟨rb, 0, none⟩))) (by kernel_rfl) ?_)
  refine S_list (T_val (v := (Value.pointer (some ⟨tb, 0, none⟩))) (x_load1 rfl Try.underlying103 rfl ((Holds.rd H 4 rfl) 0 (Value.pointer (some ⟨tb, 0, none⟩)) rfl)) ?_)
  refine S_list (T_val (v := (Value.bool false)) (by kernel_rfl) ?_)
  refine wpList_nil ?_
  refine (X_then (hK3_ _ _ ?_))
  clear hK3_
  refine C_condF rfl ?_
  refine C_skip (X_then (hK2_ _ _ ?_))
  clear hK2_
  refine C_seq (fun K4_ hK4_ => ?_)
  refine C_reg ?_
  refine S_list (T_val (v := (Value.pointer (some ⟨en, 0, none⟩))) (x_move rfl) ?_)
  refine S_list (T_val (v := (Value.pointer (some ⟨en, 0, none⟩))) (by kernel_rfl) ?_)
  refine S_list (T_val (v := (Value.pointer (some ⟨en, 0, none⟩))) (x_fieldAddr0 rfl Try.underlying216 rfl z214 rfl rfl H 1 rfl (by kernel_rfl)) ?_)
  refine S_list (T_callW (al := [(Value.pointer (some ⟨en, 0, none⟩))]) rfl rfl cb100 (Calls.into (n := 2) (al := [(Value.pointer (some ⟨en, 0, none⟩))]) Try.func100 rfl Try.ntmps100 rfl rfl ?_))
  refine C_skip ?_
  refine R_0 rfl ⟨_, rfl, ?_⟩
  refine wpList_nil ?_
  refine (X_then (hK4_ _ _ ?_))
  clear hK4_
  refine C_seq (fun K5_ hK5_ => ?_)
  refine C_reg ?_
  refine S_list (T_val (v := (Value.pointer (some ⟨en, 0, none⟩))) (x_move rfl) ?_)
  refine S_list (T_val (v := (Value.pointer (some ⟨en, 0, none⟩))) (by kernel_rfl) ?_)
  refine S_list (T_val (v := (Value.pointer (some ⟨en, 0, none⟩))) (x_fieldAddr0 rfl Try.underlying216 rfl z214 rfl rfl H 1 rfl (by kernel_rfl)) ?_)
  refine S_defer (dd := { target := .fn (.func 101) #[], args := #[(Value.pointer (some ⟨en, 0, none⟩))] }) (by kernel_rfl) ?_
  refine wpList_nil ?_
  refine (X_then (hK5_ _ _ ?_))
  clear hK5_
  refine C_seq (fun K6_ hK6_ => ?_)
  refine A_start (S := fun w => Rd en [(Value.pointer (some ⟨pw, 0, none⟩)), (Value.pointer (some ⟨cb, 0, none⟩)), (Value.slice (some ⟨ub, 0, none⟩) 8 8)] w ∧ Rd ub [c0, c1, c2, c3, c4, c5, c6, c7] w ∧ Rd rb [(Value.pointer (some ⟨tb, 0, none⟩)), (Value.pointer none), (Value.slice none 0 0)] w ∧ Rd tb [(Value.int .i64 ty)] w ∧ Rd pw [(Value.iface 95 (Value.pointer (some ⟨pg, 0, none⟩))), (Value.int .i64 (po : Int)), (Value.int .i64 4096), (Value.int .i64 (pd.length : Int)), (Value.slice (some ⟨bb, 0, none⟩) 135168 135168), (Value.int .i64 131072)] w ∧ Rd pg [V] w ∧ SlRd V (bytesV os) w ∧ Sub R (hp w)) (N := 9) foll rfl rfl ?_
  have H7_ : Holds w.drew (ro R :: cl en 216 [(Value.pointer (some ⟨pw, 0, none⟩)), (Value.pointer (some ⟨cb, 0, none⟩)), (Value.slice (some ⟨ub, 0, none⟩) 8 8)] :: cl cb 244 [(Value.int .u32 n)] :: cl ub 5 [c0, c1, c2, c3, c4, c5, c6, c7] :: cl rb 106 [(Value.pointer (some ⟨tb, 0, none⟩)), (Value.pointer none), (Value.slice none 0 0)] :: cl tb 2 [(Value.int .i64 ty)] :: cl pw 255 [(Value.iface 95 (Value.pointer (some ⟨pg, 0, none⟩))), (Value.int .i64 (po : Int)), (Value.int .i64 4096), (Value.int .i64 (pd.length : Int)), (Value.slice (some ⟨bb, 0, none⟩) 135168 135168), (Value.int .i64 131072)] :: cl bb 5 (bytesV pd ++ junk) :: cl pg 97 [V] :: sl 5 1 V (List.length os) (bytesV os) :: F) := H
  have hq8_ := And.intro (Holds.rd H7_ 1 rfl) (And.intro (Holds.rd H7_ 3 rfl) (And.intro (Holds.rd H7_ 4 rfl) (And.intro (Holds.rd H7_ 5 rfl) (And.intro (Holds.rd H7_ 6 rfl) (And.intro (Holds.rd H7_ 8 rfl) (And.intro (Holds.slrd H7_ 9 rfl) ((Holds.ro_at H7_ 0 rfl))))))))
  refine A_tk 0 (v := (Value.pointer (some ⟨en, 0, none⟩))) rfl (by kernel_rfl) (fun w hS => x_move rfl) hq8_ ?_
  refine A_tk 1 (v := (Value.pointer (some ⟨en, 0, none⟩))) rfl (by kernel_rfl) (fun w hS => by kernel_rfl) hq8_ ?_
  refine A_tk 2 (v := (Value.pointer (some ⟨en, 1, none⟩))) rfl (by kernel_rfl) (fun w hS => by kernel_rfl) hq8_ ?_
  refine A_tk 3 (v := (Value.pointer (some ⟨cb, 0, none⟩))) rfl (by kernel_rfl) (fun w hS => x_load1 rfl Try.underlying148 rfl (hS.1 1 (Value.pointer (some ⟨cb, 0, none⟩)) rfl)) hq8_ ?_
  refine A_tk 4 (v := (Value.pointer (some ⟨rb, 0, none⟩))) rfl (by kernel_rfl) (fun w hS => x_move rfl) hq8_ ?_
  refine A_tk 5 (v := (Value.pointer (some ⟨rb, 0, none⟩))) rfl (by kernel_rfl) (fun w hS => by kernel_rfl) hq8_ ?_
  refine A_tk 6 (v := (Value.pointer (some ⟨rb, 2, none⟩))) rfl (by kernel_rfl) (fun w hS => by kernel_rfl) hq8_ ?_
  refine A_tk 7 (v := (Value.slice none 0 0)) rfl (by kernel_rfl) (fun w hS => x_load1 rfl Try.underlying43 rfl (hS.2.2.1 2 (Value.slice none 0 0) rfl)) hq8_ ?_
  refine A_ready (i := 8) (rs := []) (by kernel_rfl) ?_
  refine AllR.cons ?_ AllR.nil
  have H10_ : Holds w.drew (ro R :: cl cb 244 [(Value.int .u32 n)] :: cl en 216 [(Value.pointer (some ⟨pw, 0, none⟩)), (Value.pointer (some ⟨cb, 0, none⟩)), (Value.slice (some ⟨ub, 0, none⟩) 8 8)] :: cl ub 5 [c0, c1, c2, c3, c4, c5, c6, c7] :: cl rb 106 [(Value.pointer (some ⟨tb, 0, none⟩)), (Value.pointer none), (Value.slice none 0 0)] :: cl tb 2 [(Value.int .i64 ty)] :: cl pw 255 [(Value.iface 95 (Value.pointer (some ⟨pg, 0, none⟩))), (Value.int .i64 (po : Int)), (Value.int .i64 4096), (Value.int .i64 (pd.length : Int)), (Value.slice (some ⟨bb, 0, none⟩) 135168 135168), (Value.int .i64 131072)] :: cl bb 5 (bytesV pd ++ junk) :: cl pg 97 [V] :: sl 5 1 V (List.length os) (bytesV os) :: F) := (Holds.bring (Holds.bring H7_ 2 rfl) 1 rfl)
  refine A_op (ls' := #[true, true, true, true, true, true, true, true, true]) rfl (by kernel_rfl) (T_call (al := [(Value.pointer (some ⟨cb, 0, none⟩)), ((Value.slice none 0 0))]) (pre := [cl cb 244 [(Value.int .u32 n)]]) (F := cl en 216 [(Value.pointer (some ⟨pw, 0, none⟩)), (Value.pointer (some ⟨cb, 0, none⟩)), (Value.slice (some ⟨ub, 0, none⟩) 8 8)] :: cl ub 5 [c0, c1, c2, c3, c4, c5, c6, c7] :: cl rb 106 [(Value.pointer (some ⟨tb, 0, none⟩)), (Value.pointer none), (Value.slice none 0 0)] :: cl tb 2 [(Value.int .i64 ty)] :: cl pw 255 [(Value.iface 95 (Value.pointer (some ⟨pg, 0, none⟩))), (Value.int .i64 (po : Int)), (Value.int .i64 4096), (Value.int .i64 (pd.length : Int)), (Value.slice (some ⟨bb, 0, none⟩) 135168 135168), (Value.int .i64 131072)] :: cl bb 5 (bytesV pd ++ junk) :: cl pg 97 [V] :: sl 5 1 V (List.length os) (bytesV os) :: F) rfl (lcons rfl (lcons (rfl : (Value.slice none 0 0) = ((Value.slice none 0 0))) rfl)) cb88 (wCrc R cb n (Value.slice none 0 0) ([] : List Int) (RS.nil _ 1) (by first | assumption | omega)) H10_ ?_)
  rintro v9_ p14_ w11_ ⟨rfl, rfl⟩ S13_ H12_
  replace H12_ : Holds w11_ (ro R :: cl cb 244 [(Value.int .u32 (crc n ([] : List Int)))] :: cl en 216 [(Value.pointer (some ⟨pw, 0, none⟩)), (Value.pointer (some ⟨cb, 0, none⟩)), (Value.slice (some ⟨ub, 0, none⟩) 8 8)] :: cl ub 5 [c0, c1, c2, c3, c4, c5, c6, c7] :: cl rb 106 [(Value.pointer (some ⟨tb, 0, none⟩)), (Value.pointer none), (Value.slice none 0 0)] :: cl tb 2 [(Value.int .i64 ty)] :: cl pw 255 [(Value.iface 95 (Value.pointer (some ⟨pg, 0, none⟩))), (Value.int .i64 (po : Int)), (Value.int .i64 4096), (Value.int .i64 (pd.length : Int)), (Value.slice (some ⟨bb, 0, none⟩) 135168 135168), (Value.int .i64 131072)] :: cl bb 5 (bytesV pd ++ junk) :: cl pg 97 [V] :: sl 5 1 V (List.length os) (bytesV os) :: F) := H12_
  have S15_ := Same.trans (Same.trans (Same.refl w) (Same.drew _)) S13_
  refine ⟨⟨Holds.rd H12_ 2 rfl, Holds.rd H12_ 3 rfl, Holds.rd H12_ 4 rfl, Holds.rd H12_ 5 rfl, Holds.rd H12_ 6 rfl, Holds.rd H12_ 8 rfl, Holds.slrd H12_ 9 rfl, (Holds.ro_at H12_ 0 rfl)⟩, ?_⟩
  refine A_done (by kernel_rfl) ?_
  refine (X_then (hK6_ _ _ ?_))
  clear hK6_
  refine C_seq (fun K16_ hK16_ => ?_)
  refine C_reg ?_
  refine S_list (T_val (v := (Value.pointer (some ⟨rb, 0, none⟩))) (x_move rfl) ?_)
  refine S_list (T_val (v := (Value.pointer (some ⟨en, 0, none⟩))) (x_move rfl) ?_)
  refine S_list (T_val (v := (Value.pointer (some ⟨en, 0, none⟩))) (by kernel_rfl) ?_)
  refine S_list (T_val (v := (Value.pointer (some ⟨en, 1, none⟩))) (by kernel_rfl) ?_)
  refine S_list (T_val (v := (Value.pointer (some ⟨cb, 0, none⟩))) (x_load1 rfl Try.underlying148 rfl ((Holds.rd H12_ 2 rfl) 1 (Value.pointer (some ⟨cb, 0, none⟩)) rfl)) ?_)
  refine S_list (T_callW (al := [(Value.pointer (some ⟨cb, 0, none⟩))]) rfl rfl cb96 (Calls.into (n := 7) (al := [(Value.pointer (some ⟨cb, 0, none⟩))]) Try.func96 rfl Try.ntmps96 rfl rfl ?_))
  refine C_seq (fun K17_ hK17_ => ?_)
  refine C_reg ?_
  refine S_list (T_val (v := (Value.int .u32 0)) (x_assign rfl) ?_)
  refine wpList_nil ?_
  refine (X_then (hK17_ _ _ ?_))
  clear hK17_
  refine C_seq (fun K18_ hK18_ => ?_)
  refine C_reg ?_
  refine S_list (T_val (v := (Value.pointer (some ⟨cb, 0, none⟩))) (x_move rfl) ?_)
  refine S_list (T_val (v := (Value.pointer (some ⟨cb, 0, none⟩))) (by kernel_rfl) ?_)
  refine S_list (T_val (v := (Value.pointer (some ⟨cb, 0, none⟩))) (by kernel_rfl) ?_)
  refine S_list (T_val (v := (Value.int .u32 (crc n ([] : List Int)))) (x_load1 rfl Try.underlying46 rfl ((Holds.rd H12_ 1 rfl) 0 (Value.int .u32 (crc n ([] : List Int))) rfl)) ?_)
  refine S_list (T_val (v := (Value.int .u32 (crc n ([] : List Int)))) (x_assign rfl) ?_)
  refine wpList_nil ?_
  refine (X_then (hK18_ _ _ ?_))
  clear hK18_
  refine C_ret ?_
  refine R_any (v := (Value.int .u32 (crc n ([] : List Int)))) (run_results1 rfl rfl) ⟨_, rfl, ?_⟩
  refine S_list (T_box (v := (Value.int .u32 (crc n ([] : List Int)))) rfl H12_ ?_)
  intro b19_ w20_ S22_ H21_
  replace H21_ : Holds w20_ (cl b19_ 46 [(Value.int .u32 (crc n ([] : List Int)))] :: ro R :: cl cb 244 [(Value.int .u32 (crc n ([] : List Int)))] :: cl en 216 [(Value.pointer (some ⟨pw, 0, none⟩)), (Value.pointer (some ⟨cb, 0, none⟩)), (Value.slice (some ⟨ub, 0, none⟩) 8 8)] :: cl ub 5 [c0, c1, c2, c3, c4, c5, c6, c7] :: cl rb 106 [(Value.pointer (some ⟨tb, 0, none⟩)), (Value.pointer none), (Value.slice none 0 0)] :: cl tb 2 [(Value.int .i64 ty)] :: cl pw 255 [(Value.iface 95 (Value.pointer (some ⟨pg, 0, none⟩))), (Value.int .i64 (po : Int)), (Value.int .i64 4096), (Value.int .i64 (pd.length : Int)), (Value.slice (some ⟨bb, 0, none⟩) 135168 135168), (Value.int .i64 131072)] :: cl bb 5 (bytesV pd ++ junk) :: cl pg 97 [V] :: sl 5 1 V (List.length os) (bytesV os) :: F) := H21_
  have S23_ := Same.trans S15_ S22_
  refine S_list (T_val (v := (Value.pointer (some ⟨rb, 0, none⟩))) (by kernel_rfl) ?_)
  refine S_list (T_val (v := (Value.pointer (some ⟨rb, 1, none⟩))) (by kernel_rfl) ?_)
  refine S_list0 (T_store1 (v := (Value.pointer (some ⟨b19_, 0, none⟩))) rfl rfl z104 rfl H21_ 5 rfl (Nat.le_of_ble_eq_true (by rfl)) ?_)
  intro w24_ S26_ H25_
  replace H25_ : Holds w24_ (cl b19_ 46 [(Value.int .u32 (crc n ([] : List Int)))] :: ro R :: cl cb 244 [(Value.int .u32 (crc n ([] : List Int)))] :: cl en 216 [(Value.pointer (some ⟨pw, 0, none⟩)), (Value.pointer (some ⟨cb, 0, none⟩)), (Value.slice (some ⟨ub, 0, none⟩) 8 8)] :: cl ub 5 [c0, c1, c2, c3, c4, c5, c6, c7] :: cl rb 106 [(Value.pointer (some ⟨tb, 0, none⟩)), (Value.pointer (some ⟨b19_, 0, none⟩)), (Value.slice none 0 0)] :: cl tb 2 [(Value.int .i64 ty)] :: cl pw 255 [(Value.iface 95 (Value.pointer (some ⟨pg, 0, none⟩))), (Value.int .i64 (po : Int)), (Value.int .i64 4096), (Value.int .i64 (pd.length : Int)), (Value.slice (some ⟨bb, 0, none⟩) 135168 135168), (Value.int .i64 131072)] :: cl bb 5 (bytesV pd ++ junk) :: cl pg 97 [V] :: sl 5 1 V (List.length os) (bytesV os) :: F) := H25_
  have S27_ := Same.trans S23_ S26_
  refine wpList_nil ?_
  refine (X_then (hK16_ _ _ ?_))
  clear hK16_
  refine C_seq (fun K28_ hK28_ => ?_)
  refine C_reg ?_
  refine S_list (T_val (v := (Value.slice none 0 0)) (x_assign rfl) ?_)
  refine wpList_nil ?_
  refine (X_then (hK28_ _ _ ?_))
  clear hK28_
  refine C_seq (fun K29_ hK29_ => ?_)
  refine C_reg ?_
  refine S_list (T_val (v := (Value.nilIface)) (x_assign rfl) ?_)
  refine wpList_nil ?_
  refine (X_then (hK29_ _ _ ?_))
  clear hK29_
  refine C_seq (fun K30_ hK30_ => ?_)
  refine C_reg ?_
  refine S_list (T_val (v := (Value.pointer (some ⟨rb, 0, none⟩))) (x_move rfl) ?_)
  refine S_list (T_val (v := (Value.iface 102 (Value.pointer (some ⟨rb, 0, none⟩)))) (by kernel_rfl) ?_)
  refine S_list (T_callW (al := [(Value.iface 102 (Value.pointer (some ⟨rb, 0, none⟩)))]) rfl rfl cb90 (Calls.into (n := 6) (al := [(Value.iface 102 (Value.pointer (some ⟨rb, 0, none⟩)))]) Try.func90 rfl Try.ntmps90 rfl rfl ?_))
  refine C_seq (fun K31_ hK31_ => ?_)
  refine C_reg ?_
  refine S_list (T_val (v := (Value.slice none 0 0)) (x_assign rfl) ?_)
  refine S_list (T_val (v := (Value.nilIface)) (x_assign rfl) ?_)
  refine wpList_nil ?_
  refine (X_then (hK31_ _ _ ?_))
  clear hK31_
  refine C_seq (fun K32_ hK32_ => ?_)
  refine C_reg ?_
  refine S_list (T_val (v := (Value.iface 102 (Value.pointer (some ⟨rb, 0, none⟩)))) (x_move rfl) ?_)
  have H34_ : Holds w24_ (ro R :: cl rb 106 [(Value.pointer (some ⟨tb, 0, none⟩)), (Value.pointer (some ⟨b19_, 0, none⟩)), (Value.slice none 0 0)] :: cl tb 2 [(Value.int .i64 ty)] :: cl b19_ 46 [(Value.int .u32 (crc n ([] : List Int)))] :: cl cb 244 [(Value.int .u32 (crc n ([] : List Int)))] :: cl en 216 [(Value.pointer (some ⟨pw, 0, none⟩)), (Value.pointer (some ⟨cb, 0, none⟩)), (Value.slice (some ⟨ub, 0, none⟩) 8 8)] :: cl ub 5 [c0, c1, c2, c3, c4, c5, c6, c7] :: cl pw 255 [(Value.iface 95 (Value.pointer (some ⟨pg, 0, none⟩))), (Value.int .i64 (po : Int)), (Value.int .i64 4096), (Value.int .i64 (pd.length : Int)), (Value.slice (some ⟨bb, 0, none⟩) 135168 135168), (Value.int .i64 131072)] :: cl bb 5 (bytesV pd ++ junk) :: cl pg 97 [V] :: sl 5 1 V (List.length os) (bytesV os) :: F) := (Holds.bring (Holds.bring (Holds.bring (Holds.bring H25_ 0 rfl) 6 rfl) 6 rfl) 3 rfl)
  refine S_list (T_invoke (al := [(Value.pointer (some ⟨rb, 0, none⟩))]) (pre := [cl rb 106 [(Value.pointer (some ⟨tb, 0, none⟩)), (Value.pointer (some ⟨b19_, 0, none⟩)), (Value.slice none 0 0)], cl tb 2 [(Value.int .i64 ty)], cl b19_ 46 [(Value.int .u32 (crc n ([] : List Int)))]]) (F := cl cb 244 [(Value.int .u32 (crc n ([] : List Int)))] :: cl en 216 [(Value.pointer (some ⟨pw, 0, none⟩)), (Value.pointer (some ⟨cb, 0, none⟩)), (Value.slice (some ⟨ub, 0, none⟩) 8 8)] :: cl ub 5 [c0, c1, c2, c3, c4, c5, c6, c7] :: cl pw 255 [(Value.iface 95 (Value.pointer (some ⟨pg, 0, none⟩))), (Value.int .i64 (po : Int)), (Value.int .i64 4096), (Value.int .i64 (pd.length : Int)), (Value.slice (some ⟨bb, 0, none⟩) 135168 135168), (Value.int .i64 131072)] :: cl bb 5 (bytesV pd ++ junk) :: cl pg 97 [V] :: sl 5 1 V (List.length os) (bytesV os) :: F) rfl (fun w => by kernel_rfl) rfl cb153 (wFieldsNil R rb tb b19_ ty (crc n ([] : List Int))) H34_ ?_)
  rintro v33_ p38_ w35_ ⟨_, rfl, rfl⟩ S37_ H36_
  replace H36_ : Holds w35_ (ro R :: cl rb 106 [(Value.pointer (some ⟨tb, 0, none⟩)), (Value.pointer (some ⟨b19_, 0, none⟩)), (Value.slice none 0 0)] :: cl tb 2 [(Value.int .i64 ty)] :: cl b19_ 46 [(Value.int .u32 (crc n ([] : List Int)))] :: sl 5 1 v33_ (List.length (wbody ty (crc n ([] : List Int)) false [])) (bytesV (wbody ty (crc n ([] : List Int)) false [])) :: cl cb 244 [(Value.int .u32 (crc n ([] : List Int)))] :: cl en 216 [(Value.pointer (some ⟨pw, 0, none⟩)), (Value.pointer (some ⟨cb, 0, none⟩)), (Value.slice (some ⟨ub, 0, none⟩) 8 8)] :: cl ub 5 [c0, c1, c2, c3, c4, c5, c6, c7] :: cl pw 255 [(Value.iface 95 (Value.pointer (some ⟨pg, 0, none⟩))), (Value.int .i64 (po : Int)), (Value.int .i64 4096), (Value.int .i64 (pd.length : Int)), (Value.slice (some ⟨bb, 0, none⟩) 135168 135168), (Value.int .i64 131072)] :: cl bb 5 (bytesV pd ++ junk) :: cl pg 97 [V] :: sl 5 1 V (List.length os) (bytesV os) :: F) := H36_
  have S39_ := Same.trans S27_ S37_
  refine S_list (T_val (v := v33_) (x_assign rfl) ?_)
  refine S_list (T_val (v := (Value.nilIface)) (x_assign rfl) ?_)
  refine wpList_nil ?_
  refine (X_then (hK32_ _ _ ?_))
  clear hK32_
  refine C_ret ?_
  refine R_any (v := (Value.tuple #[v33_, (Value.nilIface)])) (run_results2 rfl rfl rfl) ⟨_, rfl, ?_⟩
  refine S_list (T_val (v := (Value.tuple #[v33_, (Value.nilIface)])) (x_move rfl) ?_)
  refine S_list (T_val (v := v33_) (by kernel_rfl) ?_)
  refine S_list (T_val (v := (Value.nilIface)) (by kernel_rfl) ?_)
  refine S_list (T_val (v := v33_) (x_assign rfl) ?_)
  refine S_list (T_val (v := (Value.nilIface)) (x_assign rfl) ?_)
  refine wpList_nil ?_
  refine (X_then (hK30_ _ _ ?_))
  clear hK30_
  refine C_seq (fun K40_ hK40_ => ?_)
  refine C_seq (fun K41_ hK41_ => ?_)
  refine C_reg ?_
  refine S_list (T_val (v := (Value.nilIface)) (x_move rfl) ?_)
  refine S_list (T_val (v := (Value.bool false)) (by kernel_rfl) ?_)
  refine wpList_nil ?_
  refine (X_then (hK41_ _ _ ?_))
  clear hK41_
  refine C_condF rfl ?_
  refine C_skip (X_then (hK40_ _ _ ?_))
  clear hK40_
  refine C_seq (fun K42_ hK42_ => ?_)
  refine C_reg ?_
  refine S_list (T_val (v := v33_) (x_move rfl) ?_)
  have H43_ : Holds w35_ (ro R :: cl rb 106 [(Value.pointer (some ⟨tb, 0, none⟩)), (Value.pointer (some ⟨b19_, 0, none⟩)), (Value.slice none 0 0)] :: cl tb 2 [(Value.int .i64 ty)] :: cl b19_ 46 [(Value.int .u32 (crc n ([] : List Int)))] :: sl 5 1 v33_ (List.length (wbody ty (crc n ([] : List Int)) false ([] : List Int))) (bytesV (wbody ty (crc n ([] : List Int)) false ([] : List Int))) :: cl cb 244 [(Value.int .u32 (crc n ([] : List Int)))] :: cl en 216 [(Value.pointer (some ⟨pw, 0, none⟩)), (Value.pointer (some ⟨cb, 0, none⟩)), (Value.slice (some ⟨ub, 0, none⟩) 8 8)] :: cl ub 5 [c0, c1, c2, c3, c4, c5, c6, c7] :: cl pw 255 [(Value.iface 95 (Value.pointer (some ⟨pg, 0, none⟩))), (Value.int .i64 (po : Int)), (Value.int .i64 4096), (Value.int .i64 (pd.length : Int)), (Value.slice (some ⟨bb, 0, none⟩) 135168 135168), (Value.int .i64 131072)] :: cl bb 5 (bytesV pd ++ junk) :: cl pg 97 [V] :: sl 5 1 V (List.length os) (bytesV os) :: F) := cast2 (P := fun (c__ : List Value) (k__ : Nat) => Holds w35_ (ro R :: cl rb 106 [(Value.pointer (some ⟨tb, 0, none⟩)), (Value.pointer (some ⟨b19_, 0, none⟩)), (Value.slice none 0 0)] :: cl tb 2 [(Value.int .i64 ty)] :: cl b19_ 46 [(Value.int .u32 (crc n ([] : List Int)))] :: sl 5 1 v33_ k__ c__ :: cl cb 244 [(Value.int .u32 (crc n ([] : List Int)))] :: cl en 216 [(Value.pointer (some ⟨pw, 0, none⟩)), (Value.pointer (some ⟨cb, 0, none⟩)), (Value.slice (some ⟨ub, 0, none⟩) 8 8)] :: cl ub 5 [c0, c1, c2, c3, c4, c5, c6, c7] :: cl pw 255 [(Value.iface 95 (Value.pointer (some ⟨pg, 0, none⟩))), (Value.int .i64 (po : Int)), (Value.int .i64 4096), (Value.int .i64 (pd.length : Int)), (Value.slice (some ⟨bb, 0, none⟩) 135168 135168), (Value.int .i64 131072)] :: cl bb 5 (bytesV pd ++ junk) :: cl pg 97 [V] :: sl 5 1 V (List.length os) (bytesV os) :: F)) ((by first | rfl | omega | (simp; done) | (simp; omega)) : bytesV (wbody ty (crc n ([] : List Int)) false []) = bytesV (wbody ty (crc n ([] : List Int)) false ([] : List Int))) ((by first | rfl | omega | (simp; done) | (simp; omega)) : (List.length (wbody ty (crc n ([] : List Int)) false [])) = (List.length (wbody ty (crc n ([] : List Int)) false ([] : List Int)))) H36_
  have H46_ : Holds w35_ (ro R :: sl 5 1 v33_ (List.length (wbody ty (crc n ([] : List Int)) false ([] : List Int))) (bytesV (wbody ty (crc n ([] : List Int)) false ([] : List Int))) :: cl rb 106 [(Value.pointer (some ⟨tb, 0, none⟩)), (Value.pointer (some ⟨b19_, 0, none⟩)), (Value.slice none 0 0)] :: cl tb 2 [(Value.int .i64 ty)] :: cl b19_ 46 [(Value.int .u32 (crc n ([] : List Int)))] :: cl cb 244 [(Value.int .u32 (crc n ([] : List Int)))] :: cl en 216 [(Value.pointer (some ⟨pw, 0, none⟩)), (Value.pointer (some ⟨cb, 0, none⟩)), (Value.slice (some ⟨ub, 0, none⟩) 8 8)] :: cl ub 5 [c0, c1, c2, c3, c4, c5, c6, c7] :: cl pw 255 [(Value.iface 95 (Value.pointer (some ⟨pg, 0, none⟩))), (Value.int .i64 (po : Int)), (Value.int .i64 4096), (Value.int .i64 (pd.length : Int)), (Value.slice (some ⟨bb, 0, none⟩) 135168 135168), (Value.int .i64 131072)] :: cl bb 5 (bytesV pd ++ junk) :: cl pg 97 [V] :: sl 5 1 V (List.length os) (bytesV os) :: F) := (Holds.bring (Holds.bring H43_ 4 rfl) 1 rfl)
  refine S_list (T_call (al := [v33_]) (pre := [sl 5 1 v33_ (List.length (wbody ty (crc n ([] : List Int)) false ([] : List Int))) (bytesV (wbody ty (crc n ([] : List Int)) false ([] : List Int)))]) (F := cl rb 106 [(Value.pointer (some ⟨tb, 0, none⟩)), (Value.pointer (some ⟨b19_, 0, none⟩)), (Value.slice none 0 0)] :: cl tb 2 [(Value.int .i64 ty)] :: cl b19_ 46 [(Value.int .u32 (crc n ([] : List Int)))] :: cl cb 244 [(Value.int .u32 (crc n ([] : List Int)))] :: cl en 216 [(Value.pointer (some ⟨pw, 0, none⟩)), (Value.pointer (some ⟨cb, 0, none⟩)), (Value.slice (some ⟨ub, 0, none⟩) 8 8)] :: cl ub 5 [c0, c1, c2, c3, c4, c5, c6, c7] :: cl pw 255 [(Value.iface 95 (Value.pointer (some ⟨pg, 0, none⟩))), (Value.int .i64 (po : Int)), (Value.int .i64 4096), (Value.int .i64 (pd.length : Int)), (Value.slice (some ⟨bb, 0, none⟩) 135168 135168), (Value.int .i64 131072)] :: cl bb 5 (bytesV pd ++ junk) :: cl pg 97 [V] :: sl 5 1 V (List.length os) (bytesV os) :: F) rfl rfl cb102 (wPad R v33_ (wbody ty (crc n ([] : List Int)) false ([] : List Int)) (by first | assumption | omega)) H46_ ?_)
  rintro v44_ p50_ w47_ ⟨v45_, rfl, rfl⟩ S49_ H48_
  replace H48_ : Holds w47_ (ro R :: sl 5 1 v45_ (List.length ((wbody ty (crc n ([] : List Int)) false ([] : List Int)) ++ List.replicate (wpad (wbody ty (crc n ([] : List Int)) false ([] : List Int)).length) 0)) (bytesV ((wbody ty (crc n ([] : List Int)) false ([] : List Int)) ++ List.replicate (wpad (wbody ty (crc n ([] : List Int)) false ([] : List Int)).length) 0)) :: cl rb 106 [(Value.pointer (some ⟨tb, 0, none⟩)), (Value.pointer (some ⟨b19_, 0, none⟩)), (Value.slice none 0 0)] :: cl tb 2 [(Value.int .i64 ty)] :: cl b19_ 46 [(Value.int .u32 (crc n ([] : List Int)))] :: cl cb 244 [(Value.int .u32 (crc n ([] : List Int)))] :: cl en 216 [(Value.pointer (some ⟨pw, 0, none⟩)), (Value.pointer (some ⟨cb, 0, none⟩)), (Value.slice (some ⟨ub, 0, none⟩) 8 8)] :: cl ub 5 [c0, c1, c2, c3, c4, c5, c6, c7] :: cl pw 255 [(Value.iface 95 (Value.pointer (some ⟨pg, 0, none⟩))), (Value.int .i64 (po : Int)), (Value.int .i64 4096), (Value.int .i64 (pd.length : Int)), (Value.slice (some ⟨bb, 0, none⟩) 135168 135168), (Value.int .i64 131072)] :: cl bb 5 (bytesV pd ++ junk) :: cl pg 97 [V] :: sl 5 1 V (List.length os) (bytesV os) :: F) := H48_
  have S51_ := Same.trans S39_ S49_
  refine S_list (T_val (v := (Value.tuple #[v45_, (Value.int .u64 (lenField (wbody ty (crc n ([] : List Int)) false ([] : List Int)).length))])) (x_move rfl) ?_)
  refine S_list (T_val (v := v45_) (by kernel_rfl) ?_)
  refine S_list (T_val (v := (Value.int .u64 (lenField (wbody ty (crc n ([] : List Int)) false ([] : List Int)).length))) (by kernel_rfl) ?_)
  refine S_list (T_val (v := v45_) (x_assign rfl) ?_)
  refine S_list (T_val (v := (Value.int .u64 (lenField (wbody ty (crc n ([] : List Int)) false ([] : List Int)).length))) (x_assign rfl) ?_)
  refine wpList_nil ?_
  refine (X_then (hK42_ _ _ ?_))
  clear hK42_
  refine C_seq (fun K52_ hK52_ => ?_)
  refine A_start (S := fun w => SlRd v45_ (bytesV ((wbody ty (crc n ([] : List Int)) false ([] : List Int)) ++ List.replicate (wpad (wbody ty (crc n ([] : List Int)) false ([] : List Int)).length) 0)) w ∧ Rd cb [(Value.int .u32 (crc n ([] : List Int)))] w ∧ Rd en [(Value.pointer (some ⟨pw, 0, none⟩)), (Value.pointer (some ⟨cb, 0, none⟩)), (Value.slice (some ⟨ub, 0, none⟩) 8 8)] w ∧ Sub R (hp w)) (N := 13) foll rfl rfl ?_
  have H53_ : Holds w47_.drew (ro R :: sl 5 1 v45_ (List.length ((wbody ty (crc n ([] : List Int)) false ([] : List Int)) ++ List.replicate (wpad (wbody ty (crc n ([] : List Int)) false ([] : List Int)).length) 0)) (bytesV ((wbody ty (crc n ([] : List Int)) false ([] : List Int)) ++ List.replicate (wpad (wbody ty (crc n ([] : List Int)) false ([] : List Int)).length) 0)) :: cl rb 106 [(Value.pointer (some ⟨tb, 0, none⟩)), (Value.pointer (some ⟨b19_, 0, none⟩)), (Value.slice none 0 0)] :: cl tb 2 [(Value.int .i64 ty)] :: cl b19_ 46 [(Value.int .u32 (crc n ([] : List Int)))] :: cl cb 244 [(Value.int .u32 (crc n ([] : List Int)))] :: cl en 216 [(Value.pointer (some ⟨pw, 0, none⟩)), (Value.pointer (some ⟨cb, 0, none⟩)), (Value.slice (some ⟨ub, 0, none⟩) 8 8)] :: cl ub 5 [c0, c1, c2, c3, c4, c5, c6, c7] :: cl pw 255 [(Value.iface 95 (Value.pointer (some ⟨pg, 0, none⟩))), (Value.int .i64 (po : Int)), (Value.int .i64 4096), (Value.int .i64 (pd.length : Int)), (Value.slice (some ⟨bb, 0, none⟩) 135168 135168), (Value.int .i64 131072)] :: cl bb 5 (bytesV pd ++ junk) :: cl pg 97 [V] :: sl 5 1 V (List.length os) (bytesV os) :: F) := H48_
  have hq54_ := And.intro (Holds.slrd H53_ 1 rfl) (And.intro (Holds.rd H53_ 5 rfl) (And.intro (Holds.rd H53_ 6 rfl) ((Holds.ro_at H53_ 0 rfl))))
  refine A_tk 0 (v := (Value.pointer (some ⟨en, 0, none⟩))) rfl (by kernel_rfl) (fun w hS => x_move rfl) hq54_ ?_
  refine A_tk 1 (v := (Value.pointer (some ⟨en, 0, none⟩))) rfl (by kernel_rfl) (fun w hS => by kernel_rfl) hq54_ ?_
  refine A_tk 2 (v := (Value.pointer (some ⟨en, 0, none⟩))) rfl (by kernel_rfl) (fun w hS => by kernel_rfl) hq54_ ?_
  refine A_tk 3 (v := (Value.pointer (some ⟨pw, 0, none⟩))) rfl (by kernel_rfl) (fun w hS => x_load1 rfl Try.underlying211 rfl (hS.2.2.1 0 (Value.pointer (some ⟨pw, 0, none⟩)) rfl)) hq54_ ?_
  refine A_tk 4 (v := (Value.iface 211 (Value.pointer (some ⟨pw, 0, none⟩)))) rfl (by kernel_rfl) (fun w hS => by kernel_rfl) hq54_ ?_
  refine A_tk 5 (v := (Value.pointer (some ⟨en, 0, none⟩))) rfl (by kernel_rfl) (fun w hS => x_move rfl) hq54_ ?_
  refine A_tk 6 (v := (Value.pointer (some ⟨en, 0, none⟩))) rfl (by kernel_rfl) (fun w hS => by kernel_rfl) hq54_ ?_
  refine A_tk 7 (v := (Value.pointer (some ⟨en, 2, none⟩))) rfl (by kernel_rfl) (fun w hS => by kernel_rfl) hq54_ ?_
  refine A_tk 8 (v := (Value.slice (some ⟨ub, 0, none⟩) 8 8)) rfl (by kernel_rfl) (fun w hS => x_load1 rfl Try.underlying43 rfl (hS.2.2.1 2 (Value.slice (some ⟨ub, 0, none⟩) 8 8) rfl)) hq54_ ?_
  refine A_tk 9 (v := v45_) rfl (by kernel_rfl) (fun w hS => x_move rfl) hq54_ ?_
  refine A_tk 10 (v := (Value.int .u64 (lenField (wbody ty (crc n ([] : List Int)) false ([] : List Int)).length))) rfl (by kernel_rfl) (fun w hS => x_move rfl) hq54_ ?_
  refine A_ready (i := 11) (rs := []) (by kernel_rfl) ?_
  refine AllR.cons ?_ AllR.nil
  have H73_ : Holds w47_.drew (ro R :: sl 5 1 v45_ (List.length ((wbody ty (crc n ([] : List Int)) false ([] : List Int)) ++ List.replicate (wpad (wbody ty (crc n ([] : List Int)) false ([] : List Int)).length) 0)) (bytesV ((wbody ty (crc n ([] : List Int)) false ([] : List Int)) ++ List.replicate (wpad (wbody ty (crc n ([] : List Int)) false ([] : List Int)).length) 0)) :: cl ub 5 [c0, c1, c2, c3, c4, c5, c6, c7] :: cl pw 255 [(Value.iface 95 (Value.pointer (some ⟨pg, 0, none⟩))), (Value.int .i64 (po : Int)), (Value.int .i64 4096), (Value.int .i64 (pd.length : Int)), (Value.slice (some ⟨bb, 0, none⟩) 135168 135168), (Value.int .i64 131072)] :: cl bb 5 (bytesV pd ++ junk) :: cl pg 97 [V] :: sl 5 1 V (List.length os) (bytesV os) :: cl rb 106 [(Value.pointer (some ⟨tb, 0, none⟩)), (Value.pointer (some ⟨b19_, 0, none⟩)), (Value.slice none 0 0)] :: cl tb 2 [(Value.int .i64 ty)] :: cl b19_ 46 [(Value.int .u32 (crc n ([] : List Int)))] :: cl cb 244 [(Value.int .u32 (crc n ([] : List Int)))] :: cl en 216 [(Value.pointer (some ⟨pw, 0, none⟩)), (Value.pointer (some ⟨cb, 0, none⟩)), (Value.slice (some ⟨ub, 0, none⟩) 8 8)] :: F) := (Holds.bring (Holds.bring (Holds.bring (Holds.bring (Holds.bring (Holds.bring (Holds.bring H53_ 11 rfl) 11 rfl) 11 rfl) 11 rfl) 11 rfl) 6 rfl) 6 rfl)
  refine A_op (ls' := #[true, true, true, true, true, true, true, true, true, true, true, true, false]) rfl (by kernel_rfl) (T_call (al := [(Value.iface 211 (Value.pointer (some ⟨pw, 0, none⟩))), (Value.slice (some ⟨ub, 0, none⟩) 8 8), v45_, (Value.int .u64 (lenField (wbody ty (crc n ([] : List Int)) false ([] : List Int)).length))]) (pre := [sl 5 1 v45_ (List.length ((wbody ty (crc n ([] : List Int)) false ([] : List Int)) ++ List.replicate (wpad (wbody ty (crc n ([] : List Int)) false ([] : List Int)).length) 0)) (bytesV ((wbody ty (crc n ([] : List Int)) false ([] : List Int)) ++ List.replicate (wpad (wbody ty (crc n ([] : List Int)) false ([] : List Int)).length) 0)), cl ub 5 [c0, c1, c2, c3, c4, c5, c6, c7], cl pw 255 [(Value.iface 95 (Value.pointer (some ⟨pg, 0, none⟩))), (Value.int .i64 (po : Int)), (Value.int .i64 4096), (Value.int .i64 (pd.length : Int)), (Value.slice (some ⟨bb, 0, none⟩) 135168 135168), (Value.int .i64 131072)], cl bb 5 (bytesV pd ++ junk), cl pg 97 [V], sl 5 1 V (List.length os) (bytesV os)]) (F := cl rb 106 [(Value.pointer (some ⟨tb, 0, none⟩)), (Value.pointer (some ⟨b19_, 0, none⟩)), (Value.slice none 0 0)] :: cl tb 2 [(Value.int .i64 ty)] :: cl b19_ 46 [(Value.int .u32 (crc n ([] : List Int)))] :: cl cb 244 [(Value.int .u32 (crc n ([] : List Int)))] :: cl en 216 [(Value.pointer (some ⟨pw, 0, none⟩)), (Value.pointer (some ⟨cb, 0, none⟩)), (Value.slice (some ⟨ub, 0, none⟩) 8 8)] :: F) rfl rfl cb103 (Tri.lend (fun h0__ a0__ d0__ => wEmit (un R h0__) ub (lenField (wbody ty (crc n ([] : List Int)) false ([] : List Int)).length) v45_ (wbody ty (crc n ([] : List Int)) false ([] : List Int) ++ List.replicate (wpad (wbody ty (crc n ([] : List Int)) false ([] : List Int)).length) 0) c0 c1 c2 c3 c4 c5 c6 c7 pw bb pg po pd junk V os (RS.set_ (sl_RS a0__ (Sub.un_right d0__)) (by first | rfl | omega | (simp; done) | (simp; omega)) (by first | rfl | omega | (simp; done) | (simp; omega))) (by first | assumption | omega) (by first | assumption | omega) (by first | assumption | omega) (by first | assumption | omega) (by rw [List.length_append, List.length_replicate]; omega))) H73_ ?_)
  rintro v55_ p77_ w74_ ⟨_, rfl, ⟨c056_, c157_, c258_, c359_, c460_, c561_, c662_, c763_, po64_, pd65_, junk66_, V67_, os68_, rfl, rfl, he69_, he70_, he71_, he72_⟩⟩ S76_ H75_
  replace H75_ : Holds w74_ (ro R :: sl 5 1 v45_ (List.length ((wbody ty (crc n ([] : List Int)) false ([] : List Int)) ++ List.replicate (wpad (wbody ty (crc n ([] : List Int)) false ([] : List Int)).length) 0)) (bytesV ((wbody ty (crc n ([] : List Int)) false ([] : List Int)) ++ List.replicate (wpad (wbody ty (crc n ([] : List Int)) false ([] : List Int)).length) 0)) :: cl ub 5 [c056_, c157_, c258_, c359_, c460_, c561_, c662_, c763_] :: cl pw 255 [(Value.iface 95 (Value.pointer (some ⟨pg, 0, none⟩))), (Value.int .i64 (po64_ : Int)), (Value.int .i64 4096), (Value.int .i64 (pd65_.length : Int)), (Value.slice (some ⟨bb, 0, none⟩) 135168 135168), (Value.int .i64 131072)] :: cl bb 5 (bytesV pd65_ ++ junk66_) :: cl pg 97 [V67_] :: sl 5 1 V67_ (List.length os68_) (bytesV os68_) :: cl rb 106 [(Value.pointer (some ⟨tb, 0, none⟩)), (Value.pointer (some ⟨b19_, 0, none⟩)), (Value.slice none 0 0)] :: cl tb 2 [(Value.int .i64 ty)] :: cl b19_ 46 [(Value.int .u32 (crc n ([] : List Int)))] :: cl cb 244 [(Value.int .u32 (crc n ([] : List Int)))] :: cl en 216 [(Value.pointer (some ⟨pw, 0, none⟩)), (Value.pointer (some ⟨cb, 0, none⟩)), (Value.slice (some ⟨ub, 0, none⟩) 8 8)] :: F) := H75_
  have S78_ := Same.trans (Same.trans S51_ (Same.drew _)) S76_
  refine ⟨⟨Holds.slrd H75_ 1 rfl, Holds.rd H75_ 10 rfl, Holds.rd H75_ 11 rfl, (Holds.ro_at H75_ 0 rfl)⟩, ?_⟩
  have hq79_ := And.intro (Holds.slrd H75_ 1 rfl) (And.intro (Holds.rd H75_ 10 rfl) (And.intro (Holds.rd H75_ 11 rfl) ((Holds.ro_at H75_ 0 rfl))))
  refine A_tk 12 (v := (Value.nilIface)) rfl (by kernel_rfl) (fun w hS => x_assign rfl) hq79_ ?_
  refine A_done (by kernel_rfl) ?_
  refine (X_then (hK52_ _ _ ?_))
  clear hK52_
  refine C_ret ?_
  refine R_N ?_
  refine leaves_skip Try.func101 rfl rfl (by kernel_rfl) ?_
  refine ⟨(Value.nilIface), run_results1 rfl rfl, ?_⟩
  have H80_ : Holds w74_ (ro R :: cl en 216 [(Value.pointer (some ⟨pw, 0, none⟩)), (Value.pointer (some ⟨cb, 0, none⟩)), (Value.slice (some ⟨ub, 0, none⟩) 8 8)] :: cl cb 244 [(Value.int .u32 (crc n ([] : List Int)))] :: cl ub 5 [c056_, c157_, c258_, c359_, c460_, c561_, c662_, c763_] :: cl pw 255 [(Value.iface 95 (Value.pointer (some ⟨pg, 0, none⟩))), (Value.int .i64 (po64_ : Int)), (Value.int .i64 4096), (Value.int .i64 (pd65_.length : Int)), (Value.slice (some ⟨bb, 0, none⟩) 135168 135168), (Value.int .i64 131072)] :: cl bb 5 (bytesV pd65_ ++ junk66_) :: cl pg 97 [V67_] :: sl 5 1 V67_ (List.length os68_) (bytesV os68_) :: F) := (Holds.erase (Holds.erase (Holds.erase (Holds.erase (Holds.bring (Holds.bring (Holds.bring (Holds.bring (Holds.bring (Holds.bring (Holds.bring (Holds.bring H75_ 6 rfl) 6 rfl) 6 rfl) 6 rfl) 6 rfl) 10 rfl) 11 rfl) 7 rfl) 8) 8) 8) 8)
  exact ⟨_, [cl en 216 [(Value.pointer (some ⟨pw, 0, none⟩)), (Value.pointer (some ⟨cb, 0, none⟩)), (Value.slice (some ⟨ub, 0, none⟩) 8 8)], cl cb 244 [(Value.int .u32 (crc n ([] : List Int)))], cl ub 5 [c056_, c157_, c258_, c359_, c460_, c561_, c662_, c763_], cl pw 255 [(Value.iface 95 (Value.pointer (some ⟨pg, 0, none⟩))), (Value.int .i64 (po64_ : Int)), (Value.int .i64 4096), (Value.int .i64 (pd65_.length : Int)), (Value.slice (some ⟨bb, 0, none⟩) 135168 135168), (Value.int .i64 131072)], cl bb 5 (bytesV pd65_ ++ junk66_), cl pg 97 [V67_], sl 5 1 V67_ (List.length os68_) (bytesV os68_)], rfl, ⟨c056_, c157_, c258_, c359_, c460_, c561_, c662_, c763_, po64_, pd65_, junk66_, V67_, os68_, rfl, rfl, (by first | assumption | omega | exact rfl), (by first | assumption | omega | exact rfl), (by first | assumption | omega | exact rfl), (by rw [he72_, frame_bytes (by omega)])⟩, S78_, H80_⟩

set_option maxHeartbeats 400000 in
theorem wEncSome (R : HP) (en cb ub rb tb : Nat) (n ty : Int) (c0 c1 c2 c3 c4 c5 c6 c7 : Value) (pw bb pg po : Nat) (pd : List Int) (junk : List Value) (V : Value) (os : List Int) (db dc : Nat) (ds : List Int) (hD : RS R 1 (Value.slice (some ⟨db, 0, none⟩) ds.length dc) ds.length (bytesV ds)) (q1 : ds.length ≤ 100000) (q2 : po ≤ 2097152) (hj : pd.length + junk.length = 135168) (q4 : os.length + pd.length ≤ 60000000) (hinv : pd.length + (4096 - (po + pd.length) % 4096) ≤ 135168) :
    Tri Try.prog 75 #[(Value.pointer (some ⟨en, 0, none⟩)), (Value.pointer (some ⟨rb, 0, none⟩))] R [cl en 216 [(Value.pointer (some ⟨pw, 0, none⟩)), (Value.pointer (some ⟨cb, 0, none⟩)), (Value.slice (some ⟨ub, 0, none⟩) 8 8)], cl cb 244 [(Value.int .u32 n)], cl ub 5 [c0, c1, c2, c3, c4, c5, c6, c7], cl rb 106 [(Value.pointer (some ⟨tb, 0, none⟩)), (Value.pointer none), (Value.slice (some ⟨db, 0, none⟩) ds.length dc)], cl tb 2 [(Value.int .i64 ty)], cl pw 255 [(Value.iface 95 (Value.pointer (some ⟨pg, 0, none⟩))), (Value.int .i64 (po : Int)), (Value.int .i64 4096), (Value.int .i64 (pd.length : Int)), (Value.slice (some ⟨bb, 0, none⟩) 135168 135168), (Value.int .i64 131072)], cl bb 5 (bytesV pd ++ junk), cl pg 97 [V], sl 5 1 V (List.length os) (bytesV os)] (fun v__ post__ => ∃ (c0' c1' c2' c3' c4' c5' c6' c7' : Value) (po' : Nat) (pd' : List Int) (junk' : List Value) (V' : Value) (os' : List Int), v__ = (Value.nilIface) ∧ post__ = [cl en 216 [(Value.pointer (some ⟨pw, 0, none⟩)), (Value.pointer (some ⟨cb, 0, none⟩)), (Value.slice (some ⟨ub, 0, none⟩) 8 8)], cl cb 244 [(Value.int .u32 (crc n ds))], cl ub 5 [c0', c1', c2', c3', c4', c5', c6', c7'], cl pw 255 [(Value.iface 95 (Value.pointer (some ⟨pg, 0, none⟩))), (Value.int .i64 (po' : Int)), (Value.int .i64 4096), (Value.int .i64 (pd'.length : Int)), (Value.slice (some ⟨bb, 0, none⟩) 135168 135168), (Value.int .i64 131072)], cl bb 5 (bytesV pd' ++ junk'), cl pg 97 [V'], sl 5 1 V' (List.length os') (bytesV os')] ∧ (po' ≤ 2097152) ∧ (pd'.length + junk'.length = 135168) ∧ (pd'.length + (4096 - (po' + pd'.length) % 4096) ≤ 135168) ∧ (os' ++ pd' = os ++ pd ++ wframe (wbody ty (crc n ds) true ds))) := by
  have hbl := wbody_len ty (crc n ds) true ds
  have hp8 : wpad (wbody ty (crc n ds) true ds).length < 8 := Nat.mod_lt _ (by omega)
  refine Tri.intoN (n := 65) (al := [(Value.pointer (some ⟨en, 0, none⟩)), (Value.pointer (some ⟨rb, 0, none⟩))]) Try.func75 rfl Try.ntmps75 rfl rfl fun w F H => ?_
  replace H : Holds w (ro R :: cl en 216 [(Value.pointer (some ⟨pw, 0, none⟩)), (Value.pointer (some ⟨cb, 0, none⟩)), (Value.slice (some ⟨ub, 0, none⟩) 8 8)] :: cl cb 244 [(Value.int .u32 n)] :: cl ub 5 [c0, c1, c2, c3, c4, c5, c6, c7] :: cl rb 106 [(Value.pointer (some ⟨tb, 0, none⟩)), (Value.pointer none), (Value.slice (some ⟨db, 0, none⟩) ds.length dc)] :: cl tb 2 [(Value.int .i64 ty)] :: cl pw 255 [(Value.iface 95 (Value.pointer (some ⟨pg, 0, none⟩))), (Value.int .i64 (po : Int)), (Value.int .i64 4096), (Value.int .i64 (pd.length : Int)), (Value.slice (some ⟨bb, 0, none⟩) 135168 135168), (Value.int .i64 131072)] :: cl bb 5 (bytesV pd ++ junk) :: cl pg 97 [V] :: sl 5 1 V (List.length os) (bytesV os) :: F) := H
  refine C_seq (fun K1_ hK1_ => ?_)
  refine C_reg ?_
  refine S_list (T_val (v := (Value.nilIface)) (x_assign rfl) ?_)
  refine wpList_nil ?_
  refine (X_then (hK1_ _ _ ?_))
  clear hK1_
  refine C_seq (fun K2_ hK2_ => ?_)
  refine C_seq (fun K3_ hK3_ => ?_)
  refine C_reg ?_
  refine S_list (T_val (v := (Value.pointer (some ⟨rb, 0, none⟩))) (x_move rfl) ?_)
  refine S_list (T_val (v := (Value.pointer (some ⟨rb, 0, none⟩))) (by kernel_rfl) ?_)
  refine S_list (T_val (v := (Value.pointer (some ⟨rb, 0, none⟩))) (by kernel_rfl) ?_)
  refine S_list (T_val (v := (Value.pointer (some ⟨tb, 0, none⟩))) (x_load1 rfl Try.underlying103 rfl ((Holds.rd H 4 rfl) 0 (Value.pointer (some ⟨tb, 0, none⟩)) rfl)) ?_)
  refine S_list (T_val (v := (Value.bool false)) (by kernel_rfl) ?_)
  refine wpList_nil ?_
  refine (X_then (hK3_ _ _ ?_))
  clear hK3_
  refine C_condF rfl ?_
  refine C_skip (X_then (hK2_ _ _ ?_))
  clear hK2_
  refine C_seq (fun K4_ hK4_ => ?_)
  refine C_reg ?_
  refine S_list (T_val (v := (Value.pointer (some ⟨en, 0, none⟩))) (x_move rfl) ?_)
  refine S_list (T_val (v := (Value.pointer (some ⟨en, 0, none⟩))) (by kernel_rfl) ?_)
  refine S_list (T_val (v := (Value.pointer (some ⟨en, 0, none⟩))) (x_fieldAddr0 rfl Try.underlying216 rfl z214 rfl rfl H 1 rfl (by kernel_rfl)) ?_)
  refine S_list (T_callW (al := [(Value.pointer (some ⟨en, 0, none⟩))]) rfl rfl cb100 (Calls.into (n := 2) (al := [(Value.pointer (some ⟨en, 0, none⟩))]) Try.func100 rfl Try.ntmps100 rfl rfl ?_))
  refine C_skip ?_
  refine R_0 rfl ⟨_, rfl, ?_⟩
  refine wpList_nil ?_
  refine (X_then (hK4_ _ _ ?_))
  clear hK4_
  refine C_seq (fun K5_ hK5_ => ?_)
  refine C_reg ?_
  refine S_list (T_val (v := (Value.pointer (some ⟨en, 0, none⟩))) (x_move rfl) ?_)
  refine S_list (T_val (v := (Value.pointer (some ⟨en, 0, none⟩))) (by kernel_rfl) ?_)
  refine S_list (T_val (v := (Value.pointer (some ⟨en, 0, none⟩))) (x_fieldAddr0 rfl Try.underlying216 rfl z214 rfl rfl H 1 rfl (by kernel_rfl)) ?_)
  refine S_defer (dd := { target := .fn (.func 101) #[], args := #[(Value.pointer (some ⟨en, 0, none⟩))] }) (by kernel_rfl) ?_
  refine wpList_nil ?_
  refine (X_then (hK5_ _ _ ?_))
  clear hK5_
  refine C_seq (fun K6_ hK6_ => ?_)
  refine A_start (S := fun w => Rd en [(Value.pointer (some ⟨pw, 0, none⟩)), (Value.pointer (some ⟨cb, 0, none⟩)), (Value.slice (some ⟨ub, 0, none⟩) 8 8)] w ∧ Rd ub [c0, c1, c2, c3, c4, c5, c6, c7] w ∧ Rd rb [(Value.pointer (some ⟨tb, 0, none⟩)), (Value.pointer none), (Value.slice (some ⟨db, 0, none⟩) ds.length dc)] w ∧ Rd tb [(Value.int .i64 ty)] w ∧ Rd pw [(Value.iface 95 (Value.pointer (some ⟨pg, 0, none⟩))), (Value.int .i64 (po : Int)), (Value.int .i64 4096), (Value.int .i64 (pd.length : Int)), (Value.slice (some ⟨bb, 0, none⟩) 135168 135168), (Value.int .i64 131072)] w ∧ Rd pg [V] w ∧ SlRd V (bytesV os) w ∧ Sub R (hp w)) (N := 9) foll rfl rfl ?_
  have H7_ : Holds w.drew (ro R :: cl en 216 [(Value.pointer (some ⟨pw, 0, none⟩)), (Value.pointer (some ⟨cb, 0, none⟩)), (Value.slice (some ⟨ub, 0, none⟩) 8 8)] :: cl cb 244 [(Value.int .u32 n)] :: cl ub 5 [c0, c1, c2, c3, c4, c5, c6, c7] :: cl rb 106 [(Value.pointer (some ⟨tb, 0, none⟩)), (Value.pointer none), (Value.slice (some ⟨db, 0, none⟩) ds.length dc)] :: cl tb 2 [(Value.int .i64 ty)] :: cl pw 255 [(Value.iface 95 (Value.pointer (some ⟨pg, 0, none⟩))), (Value.int .i64 (po : Int)), (Value.int .i64 4096), (Value.int .i64 (pd.length : Int)), (Value.slice (some ⟨bb, 0, none⟩) 135168 135168), (Value.int .i64 131072)] :: cl bb 5 (bytesV pd ++ junk) :: cl pg 97 [V] :: sl 5 1 V (List.length os) (bytesV os) :: F) := H
  have hq8_ := And.intro (Holds.rd H7_ 1 rfl) (And.intro (Holds.rd H7_ 3 rfl) (And.intro (Holds.rd H7_ 4 rfl) (And.intro (Holds.rd H7_ 5 rfl) (And.intro (Holds.rd H7_ 6 rfl) (And.intro (Holds.rd H7_ 8 rfl) (And.intro (Holds.slrd H7_ 9 rfl) ((Holds.ro_at H7_ 0 rfl))))))))
  refine A_tk 0 (v := (Value.pointer (some ⟨en, 0, none⟩))) rfl (by kernel_rfl) (fun w hS => x_move rfl) hq8_ ?_
  refine A_tk 1 (v := (Value.pointer (some ⟨en, 0, none⟩))) rfl (by kernel_rfl) (fun w hS => by kernel_rfl) hq8_ ?_
  refine A_tk 2 (v := (Value.pointer (some ⟨en, 1, none⟩))) rfl (by kernel_rfl) (fun w hS => by kernel_rfl) hq8_ ?_
  refine A_tk 3 (v := (Value.pointer (some ⟨cb, 0, none⟩))) rfl (by kernel_rfl) (fun w hS => x_load1 rfl Try.underlying148 rfl (hS.1 1 (Value.pointer (some ⟨cb, 0, none⟩)) rfl)) hq8_ ?_
  refine A_tk 4 (v := (Value.pointer (some ⟨rb, 0, none⟩))) rfl (by kernel_rfl) (fun w hS => x_move rfl) hq8_ ?_
  refine A_tk 5 (v := (Value.pointer (some ⟨rb, 0, none⟩))) rfl (by kernel_rfl) (fun w hS => by kernel_rfl) hq8_ ?_
  refine A_tk 6 (v := (Value.pointer (some ⟨rb, 2, none⟩))) rfl (by kernel_rfl) (fun w hS => by kernel_rfl) hq8_ ?_
  refine A_tk 7 (v := (Value.slice (some ⟨db, 0, none⟩) ds.length dc)) rfl (by kernel_rfl) (fun w hS => x_load1 rfl Try.underlying43 rfl (hS.2.2.1 2 (Value.slice (some ⟨db, 0, none⟩) ds.length dc) rfl)) hq8_ ?_
  refine A_ready (i := 8) (rs := []) (by kernel_rfl) ?_
  refine AllR.cons ?_ AllR.nil
  have H10_ : Holds w.drew (ro R :: cl cb 244 [(Value.int .u32 n)] :: cl en 216 [(Value.pointer (some ⟨pw, 0, none⟩)), (Value.pointer (some ⟨cb, 0, none⟩)), (Value.slice (some ⟨ub, 0, none⟩) 8 8)] :: cl ub 5 [c0, c1, c2, c3, c4, c5, c6, c7] :: cl rb 106 [(Value.pointer (some ⟨tb, 0, none⟩)), (Value.pointer none), (Value.slice (some ⟨db, 0, none⟩) ds.length dc)] :: cl tb 2 [(Value.int .i64 ty)] :: cl pw 255 [(Value.iface 95 (Value.pointer (some ⟨pg, 0, none⟩))), (Value.int .i64 (po : Int)), (Value.int .i64 4096), (Value.int .i64 (pd.length : Int)), (Value.slice (some ⟨bb, 0, none⟩) 135168 135168), (Value.int .i64 131072)] :: cl bb 5 (bytesV pd ++ junk) :: cl pg 97 [V] :: sl 5 1 V (List.length os) (bytesV os) :: F) := (Holds.bring (Holds.bring H7_ 2 rfl) 1 rfl)
  refine A_op (ls' := #[true, true, true, true, true, true, true, true, true]) rfl (by kernel_rfl) (T_call (al := [(Value.pointer (some ⟨cb, 0, none⟩)), ((Value.slice (some ⟨db, 0, none⟩) ds.length dc))]) (pre := [cl cb 244 [(Value.int .u32 n)]]) (F := cl en 216 [(Value.pointer (some ⟨pw, 0, none⟩)), (Value.pointer (some ⟨cb, 0, none⟩)), (Value.slice (some ⟨ub, 0, none⟩) 8 8)] :: cl ub 5 [c0, c1, c2, c3, c4, c5, c6, c7] :: cl rb 106 [(Value.pointer (some ⟨tb, 0, none⟩)), (Value.pointer none), (Value.slice (some ⟨db, 0, none⟩) ds.length dc)] :: cl tb 2 [(Value.int .i64 ty)] :: cl pw 255 [(Value.iface 95 (Value.pointer (some ⟨pg, 0, none⟩))), (Value.int .i64 (po : Int)), (Value.int .i64 4096), (Value.int .i64 (pd.length : Int)), (Value.slice (some ⟨bb, 0, none⟩) 135168 135168), (Value.int .i64 131072)] :: cl bb 5 (bytesV pd ++ junk) :: cl pg 97 [V] :: sl 5 1 V (List.length os) (bytesV os) :: F) rfl (lcons rfl (lcons (rfl : (Value.slice (some ⟨db, 0, none⟩) ds.length dc) = ((Value.slice (some ⟨db, 0, none⟩) ds.length dc))) rfl)) cb88 (wCrc R cb n (Value.slice (some ⟨db, 0, none⟩) ds.length dc) ds hD (by first | assumption | omega)) H10_ ?_)
  rintro v9_ p14_ w11_ ⟨rfl, rfl⟩ S13_ H12_
  replace H12_ : Holds w11_ (ro R :: cl cb 244 [(Value.int .u32 (crc n ds))] :: cl en 216 [(Value.pointer (some ⟨pw, 0, none⟩)), (Value.pointer (some ⟨cb, 0, none⟩)), (Value.slice (some ⟨ub, 0, none⟩) 8 8)] :: cl ub 5 [c0, c1, c2, c3, c4, c5, c6, c7] :: cl rb 106 [(Value.pointer (some ⟨tb, 0, none⟩)), (Value.pointer none), (Value.slice (some ⟨db, 0, none⟩) ds.length dc)] :: cl tb 2 [(Value.int .i64 ty)] :: cl pw 255 [(Value.iface 95 (Value.pointer (some ⟨pg, 0, none⟩))), (Value.int .i64 (po : Int)), (Value.int .i64 4096), (Value.int .i64 (pd.length : Int)), (Value.slice (some ⟨bb, 0, none⟩) 135168 135168), (Value.int .i64 131072)] :: cl bb 5 (bytesV pd ++ junk) :: cl pg 97 [V] :: sl 5 1 V (List.length os) (bytesV os) :: F) := H12_
  have S15_ := Same.trans (Same.trans (Same.refl w) (Same.drew _)) S13_
  refine ⟨⟨Holds.rd H12_ 2 rfl, Holds.rd H12_ 3 rfl, Holds.rd H12_ 4 rfl, Holds.rd H12_ 5 rfl, Holds.rd H12_ 6 rfl, Holds.rd H12_ 8 rfl, Holds.slrd H12_ 9 rfl, (Holds.ro_at H12_ 0 rfl)⟩, ?_⟩
  refine A_done (by kernel_rfl) ?_
  refine (X_then (hK6_ _ _ ?_))
  clear hK6_
  refine C_seq (fun K16_ hK16_ => ?_)
  refine C_reg ?_
  refine S_list (T_val (v := (Value.pointer (some ⟨rb, 0, none⟩))) (x_move rfl) ?_)
  refine S_list (T_val (v := (Value.pointer (some ⟨en, 0, none⟩))) (x_move rfl) ?_)
  refine S_list (T_val (v := (Value.pointer (some ⟨en, 0, none⟩))) (by kernel_rfl) ?_)
  refine S_list (T_val (v := (Value.pointer (some ⟨en, 1, none⟩))) (by kernel_rfl) ?_)
  refine S_list (T_val (v := (Value.pointer (some ⟨cb, 0, none⟩))) (x_load1 rfl Try.underlying148 rfl ((Holds.rd H12_ 2 rfl) 1 (Value.pointer (some ⟨cb, 0, none⟩)) rfl)) ?_)
  refine S_list (T_callW (al := [(Value.pointer (some ⟨cb, 0, none⟩))]) rfl rfl cb96 (Calls.into (n := 7) (al := [(Value.pointer (some ⟨cb, 0, none⟩))]) Try.func96 rfl Try.ntmps96 rfl rfl ?_))
  refine C_seq (fun K17_ hK17_ => ?_)
  refine C_reg ?_
  refine S_list (T_val (v := (Value.int .u32 0)) (x_assign rfl) ?_)
  refine wpList_nil ?_
  refine (X_then (hK17_ _ _ ?_))
  clear hK17_
  refine C_seq (fun K18_ hK18_ => ?_)
  refine C_reg ?_
  refine S_list (T_val (v := (Value.pointer (some ⟨cb, 0, none⟩))) (x_move rfl) ?_)
  refine S_list (T_val (v := (Value.pointer (some ⟨cb, 0, none⟩))) (by kernel_rfl) ?_)
  refine S_list (T_val (v := (Value.pointer (some ⟨cb, 0, none⟩))) (by kernel_rfl) ?_)
  refine S_list (T_val (v := (Value.int .u32 (crc n ds))) (x_load1 rfl Try.underlying46 rfl ((Holds.rd H12_ 1 rfl) 0 (Value.int .u32 (crc n ds)) rfl)) ?_)
  refine S_list (T_val (v := (Value.int .u32 (crc n ds))) (x_assign rfl) ?_)
  refine wpList_nil ?_
  refine (X_then (hK18_ _ _ ?_))
  clear hK18_
  refine C_ret ?_
  refine R_any (v := (Value.int .u32 (crc n ds))) (run_results1 rfl rfl) ⟨_, rfl, ?_⟩
  refine S_list (T_box (v := (Value.int .u32 (crc n ds))) rfl H12_ ?_)
  intro b19_ w20_ S22_ H21_
  replace H21_ : Holds w20_ (cl b19_ 46 [(Value.int .u32 (crc n ds))] :: ro R :: cl cb 244 [(Value.int .u32 (crc n ds))] :: cl en 216 [(Value.pointer (some ⟨pw, 0, none⟩)), (Value.pointer (some ⟨cb, 0, none⟩)), (Value.slice (some ⟨ub, 0, none⟩) 8 8)] :: cl ub 5 [c0, c1, c2, c3, c4, c5, c6, c7] :: cl rb 106 [(Value.pointer (some ⟨tb, 0, none⟩)), (Value.pointer none), (Value.slice (some ⟨db, 0, none⟩) ds.length dc)] :: cl tb 2 [(Value.int .i64 ty)] :: cl pw 255 [(Value.iface 95 (Value.pointer (some ⟨pg, 0, none⟩))), (Value.int .i64 (po : Int)), (Value.int .i64 4096), (Value.int .i64 (pd.length : Int)), (Value.slice (some ⟨bb, 0, none⟩) 135168 135168), (Value.int .i64 131072)] :: cl bb 5 (bytesV pd ++ junk) :: cl pg 97 [V] :: sl 5 1 V (List.length os) (bytesV os) :: F) := H21_
  have S23_ := Same.trans S15_ S22_
  refine S_list (T_val (v := (Value.pointer (some ⟨rb, 0, none⟩))) (by kernel_rfl) ?_)
  refine S_list (T_val (v := (Value.pointer (some ⟨rb, 1, none⟩))) (by kernel_rfl) ?_)
  refine S_list0 (T_store1 (v := (Value.pointer (some ⟨b19_, 0, none⟩))) rfl rfl z104 rfl H21_ 5 rfl (Nat.le_of_ble_eq_true (by rfl)) ?_)
  intro w24_ S26_ H25_
  replace H25_ : Holds w24_ (cl b19_ 46 [(Value.int .u32 (crc n ds))] :: ro R :: cl cb 244 [(Value.int .u32 (crc n ds))] :: cl en 216 [(Value.pointer (some ⟨pw, 0, none⟩)), (Value.pointer (some ⟨cb, 0, none⟩)), (Value.slice (some ⟨ub, 0, none⟩) 8 8)] :: cl ub 5 [c0, c1, c2, c3, c4, c5, c6, c7] :: cl rb 106 [(Value.pointer (some ⟨tb, 0, none⟩)), (Value.pointer (some ⟨b19_, 0, none⟩)), (Value.slice (some ⟨db, 0, none⟩) ds.length dc)] :: cl tb 2 [(Value.int .i64 ty)] :: cl pw 255 [(Value.iface 95 (Value.pointer (some ⟨pg, 0, none⟩))), (Value.int .i64 (po : Int)), (Value.int .i64 4096), (Value.int .i64 (pd.length : Int)), (Value.slice (some ⟨bb, 0, none⟩) 135168 135168), (Value.int .i64 131072)] :: cl bb 5 (bytesV pd ++ junk) :: cl pg 97 [V] :: sl 5 1 V (List.length os) (bytesV os) :: F) := H25_
  have S27_ := Same.trans S23_ S26_
  refine wpList_nil ?_
  refine (X_then (hK16_ _ _ ?_))
  clear hK16_
  refine C_seq (fun K28_ hK28_ => ?_)
  refine C_reg ?_
  refine S_list (T_val (v := (Value.slice none 0 0)) (x_assign rfl) ?_)
  refine wpList_nil ?_
  refine (X_then (hK28_ _ _ ?_))
  clear hK28_
  refine C_seq (fun K29_ hK29_ => ?_)
  refine C_reg ?_
  refine S_list (T_val (v := (Value.nilIface)) (x_assign rfl) ?_)
  refine wpList_nil ?_
  refine (X_then (hK29_ _ _ ?_))
  clear hK29_
  refine C_seq (fun K30_ hK30_ => ?_)
  refine C_reg ?_
  refine S_list (T_val (v := (Value.pointer (some ⟨rb, 0, none⟩))) (x_move rfl) ?_)
  refine S_list (T_val (v := (Value.iface 102 (Value.pointer (some ⟨rb, 0, none⟩)))) (by kernel_rfl) ?_)
  refine S_list (T_callW (al := [(Value.iface 102 (Value.pointer (some ⟨rb, 0, none⟩)))]) rfl rfl cb90 (Calls.into (n := 6) (al := [(Value.iface 102 (Value.pointer (some ⟨rb, 0, none⟩)))]) Try.func90 rfl Try.ntmps90 rfl rfl ?_))
  refine C_seq (fun K31_ hK31_ => ?_)
  refine C_reg ?_
  refine S_list (T_val (v := (Value.slice none 0 0)) (x_assign rfl) ?_)
  refine S_list (T_val (v := (Value.nilIface)) (x_assign rfl) ?_)
  refine wpList_nil ?_
  refine (X_then (hK31_ _ _ ?_))
  clear hK31_
  refine C_seq (fun K32_ hK32_ => ?_)
  refine C_reg ?_
  refine S_list (T_val (v := (Value.iface 102 (Value.pointer (some ⟨rb, 0, none⟩)))) (x_move rfl) ?_)
  have H34_ : Holds w24_ (ro R :: cl rb 106 [(Value.pointer (some ⟨tb, 0, none⟩)), (Value.pointer (some ⟨b19_, 0, none⟩)), (Value.slice (some ⟨db, 0, none⟩) ds.length dc)] :: cl tb 2 [(Value.int .i64 ty)] :: cl b19_ 46 [(Value.int .u32 (crc n ds))] :: cl cb 244 [(Value.int .u32 (crc n ds))] :: cl en 216 [(Value.pointer (some ⟨pw, 0, none⟩)), (Value.pointer (some ⟨cb, 0, none⟩)), (Value.slice (some ⟨ub, 0, none⟩) 8 8)] :: cl ub 5 [c0, c1, c2, c3, c4, c5, c6, c7] :: cl pw 255 [(Value.iface 95 (Value.pointer (some ⟨pg, 0, none⟩))), (Value.int .i64 (po : Int)), (Value.int .i64 4096), (Value.int .i64 (pd.length : Int)), (Value.slice (some ⟨bb, 0, none⟩) 135168 135168), (Value.int .i64 131072)] :: cl bb 5 (bytesV pd ++ junk) :: cl pg 97 [V] :: sl 5 1 V (List.length os) (bytesV os) :: F) := (Holds.bring (Holds.bring (Holds.bring (Holds.bring H25_ 0 rfl) 6 rfl) 6 rfl) 3 rfl)
  refine S_list (T_invoke (al := [(Value.pointer (some ⟨rb, 0, none⟩))]) (pre := [cl rb 106 [(Value.pointer (some ⟨tb, 0, none⟩)), (Value.pointer (some ⟨b19_, 0, none⟩)), (Value.slice (some ⟨db, 0, none⟩) ds.length dc)], cl tb 2 [(Value.int .i64 ty)], cl b19_ 46 [(Value.int .u32 (crc n ds))]]) (F := cl cb 244 [(Value.int .u32 (crc n ds))] :: cl en 216 [(Value.pointer (some ⟨pw, 0, none⟩)), (Value.pointer (some ⟨cb, 0, none⟩)), (Value.slice (some ⟨ub, 0, none⟩) 8 8)] :: cl ub 5 [c0, c1, c2, c3, c4, c5, c6, c7] :: cl pw 255 [(Value.iface 95 (Value.pointer (some ⟨pg, 0, none⟩))), (Value.int .i64 (po : Int)), (Value.int .i64 4096), (Value.int .i64 (pd.length : Int)), (Value.slice (some ⟨bb, 0, none⟩) 135168 135168), (Value.int .i64 131072)] :: cl bb 5 (bytesV pd ++ junk) :: cl pg 97 [V] :: sl 5 1 V (List.length os) (bytesV os) :: F) rfl (fun w => by kernel_rfl) rfl cb153 (wFieldsSome R rb tb b19_ ty (crc n ds) db dc ds hD (by first | assumption | omega)) H34_ ?_)
  rintro v33_ p38_ w35_ ⟨_, rfl, rfl⟩ S37_ H36_
  replace H36_ : Holds w35_ (ro R :: cl rb 106 [(Value.pointer (some ⟨tb, 0, none⟩)), (Value.pointer (some ⟨b19_, 0, none⟩)), (Value.slice (some ⟨db, 0, none⟩) ds.length dc)] :: cl tb 2 [(Value.int .i64 ty)] :: cl b19_ 46 [(Value.int .u32 (crc n ds))] :: sl 5 1 v33_ (List.length (wbody ty (crc n ds) true ds)) (bytesV (wbody ty (crc n ds) true ds)) :: cl cb 244 [(Value.int .u32 (crc n ds))] :: cl en 216 [(Value.pointer (some ⟨pw, 0, none⟩)), (Value.pointer (some ⟨cb, 0, none⟩)), (Value.slice (some ⟨ub, 0, none⟩) 8 8)] :: cl ub 5 [c0, c1, c2, c3, c4, c5, c6, c7] :: cl pw 255 [(Value.iface 95 (Value.pointer (some ⟨pg, 0, none⟩))), (Value.int .i64 (po : Int)), (Value.int .i64 4096), (Value.int .i64 (pd.length : Int)), (Value.slice (some ⟨bb, 0, none⟩) 135168 135168), (Value.int .i64 131072)] :: cl bb 5 (bytesV pd ++ junk) :: cl pg 97 [V] :: sl 5 1 V (List.length os) (bytesV os) :: F) := H36_
  have S39_ := Same.trans S27_ S37_
  refine S_list (T_val (v := v33_) (x_assign rfl) ?_)
  refine S_list (T_val (v := (Value.nilIface)) (x_assign rfl) ?_)
  refine wpList_nil ?_
  refine (X_then (hK32_ _ _ ?_))
  clear hK32_
  refine C_ret ?_
  refine R_any (v := (Value.tuple #[v33_, (Value.nilIface)])) (run_results2 rfl rfl rfl) ⟨_, rfl, ?_⟩
  refine S_list (T_val (v := (Value.tuple #[v33_, (Value.nilIface)])) (x_move rfl) ?_)
  refine S_list (T_val (v := v33_) (by kernel_rfl) ?_)
  refine S_list (T_val (v := (Value.nilIface)) (by kernel_rfl) ?_)
  refine S_list (T_val (v := v33_) (x_assign rfl) ?_)
  refine S_list (T_val (v := (Value.nilIface)) (x_assign rfl) ?_)
  refine wpList_nil ?_
  refine (X_then (hK30_ _ _ ?_))
  clear hK30_
  refine C_seq (fun K40_ hK40_ => ?_)
  refine C_seq (fun K41_ hK41_ => ?_)
  refine C_reg ?_
  refine S_list (T_val (v := (Value.nilIface)) (x_move rfl) ?_)
  refine S_list (T_val (v := (Value.bool false)) (by kernel_rfl) ?_)
  refine wpList_nil ?_
  refine (X_then (hK41_ _ _ ?_))
  clear hK41_
  refine C_condF rfl ?_
  refine C_skip (X_then (hK40_ _ _ ?_))
  clear hK40_
  refine C_seq (fun K42_ hK42_ => ?_)
  refine C_reg ?_
  refine S_list (T_val (v := v33_) (x_move rfl) ?_)
  have H45_ : Holds w35_ (ro R :: sl 5 1 v33_ (List.length (wbody ty (crc n ds) true ds)) (bytesV (wbody ty (crc n ds) true ds)) :: cl rb 106 [(Value.pointer (some ⟨tb, 0, none⟩)), (Value.pointer (some ⟨b19_, 0, none⟩)), (Value.slice (some ⟨db, 0, none⟩) ds.length dc)] :: cl tb 2 [(Value.int .i64 ty)] :: cl b19_ 46 [(Value.int .u32 (crc n ds))] :: cl cb 244 [(Value.int .u32 (crc n ds))] :: cl en 216 [(Value.pointer (some ⟨pw, 0, none⟩)), (Value.pointer (some ⟨cb, 0, none⟩)), (Value.slice (some ⟨ub, 0, none⟩) 8 8)] :: cl ub 5 [c0, c1, c2, c3, c4, c5, c6, c7] :: cl pw 255 [(Value.iface 95 (Value.pointer (some ⟨pg, 0, none⟩))), (Value.int .i64 (po : Int)), (Value.int .i64 4096), (Value.int .i64 (pd.length : Int)), (Value.slice (some ⟨bb, 0, none⟩) 135168 135168), (Value.int .i64 131072)] :: cl bb 5 (bytesV pd ++ junk) :: cl pg 97 [V] :: sl 5 1 V (List.length os) (bytesV os) :: F) := (Holds.bring (Holds.bring H36_ 4 rfl) 1 rfl)
  refine S_list (T_call (al := [v33_]) (pre := [sl 5 1 v33_ (List.length (wbody ty (crc n ds) true ds)) (bytesV (wbody ty (crc n ds) true ds))]) (F := cl rb 106 [(Value.pointer (some ⟨tb, 0, none⟩)), (Value.pointer (some ⟨b19_, 0, none⟩)), (Value.slice (some ⟨db, 0, none⟩) ds.length dc)] :: cl tb 2 [(Value.int .i64 ty)] :: cl b19_ 46 [(Value.int .u32 (crc n ds))] :: cl cb 244 [(Value.int .u32 (crc n ds))] :: cl en 216 [(Value.pointer (some ⟨pw, 0, none⟩)), (Value.pointer (some ⟨cb, 0, none⟩)), (Value.slice (some ⟨ub, 0, none⟩) 8 8)] :: cl ub 5 [c0, c1, c2, c3, c4, c5, c6, c7] :: cl pw 255 [(Value.iface 95 (Value.pointer (some ⟨pg, 0, none⟩))), (Value.int .i64 (po : Int)), (Value.int .i64 4096), (Value.int .i64 (pd.length : Int)), (Value.slice (some ⟨bb, 0, none⟩) 135168 135168), (Value.int .i64 131072)] :: cl bb 5 (bytesV pd ++ junk) :: cl pg 97 [V] :: sl 5 1 V (List.length os) (bytesV os) :: F) rfl rfl cb102 (wPad R v33_ (wbody ty (crc n ds) true ds) (by first | assumption | omega)) H45_ ?_)
  rintro v43_ p49_ w46_ ⟨v44_, rfl, rfl⟩ S48_ H47_
  replace H47_ : Holds w46_ (ro R :: sl 5 1 v44_ (List.length ((wbody ty (crc n ds) true ds) ++ List.replicate (wpad (wbody ty (crc n ds) true ds).length) 0)) (bytesV ((wbody ty (crc n ds) true ds) ++ List.replicate (wpad (wbody ty (crc n ds) true ds).length) 0)) :: cl rb 106 [(Value.pointer (some ⟨tb, 0, none⟩)), (Value.pointer (some ⟨b19_, 0, none⟩)), (Value.slice (some ⟨db, 0, none⟩) ds.length dc)] :: cl tb 2 [(Value.int .i64 ty)] :: cl b19_ 46 [(Value.int .u32 (crc n ds))] :: cl cb 244 [(Value.int .u32 (crc n ds))] :: cl en 216 [(Value.pointer (some ⟨pw, 0, none⟩)), (Value.pointer (some ⟨cb, 0, none⟩)), (Value.slice (some ⟨ub, 0, none⟩) 8 8)] :: cl ub 5 [c0, c1, c2, c3, c4, c5, c6, c7] :: cl pw 255 [(Value.iface 95 (Value.pointer (some ⟨pg, 0, none⟩))), (Value.int .i64 (po : Int)), (Value.int .i64 4096), (Value.int .i64 (pd.length : Int)), (Value.slice (some ⟨bb, 0, none⟩) 135168 135168), (Value.int .i64 131072)] :: cl bb 5 (bytesV pd ++ junk) :: cl pg 97 [V] :: sl 5 1 V (List.length os) (bytesV os) :: F) := H47_
  have S50_ := Same.trans S39_ S48_
  refine S_list (T_val (v := (Value.tuple #[v44_, (Value.int .u64 (lenField (wbody ty (crc n ds) true ds).length))])) (x_move rfl) ?_)
  refine S_list (T_val (v := v44_) (by kernel_rfl) ?_)
  refine S_list (T_val (v := (Value.int .u64 (lenField (wbody ty (crc n ds) true ds).length))) (by kernel_rfl) ?_)
  refine S_list (T_val (v := v44_) (x_assign rfl) ?_)
  refine S_list (T_val (v := (Value.int .u64 (lenField (wbody ty (crc n ds) true ds).length))) (x_assign rfl) ?_)
  refine wpList_nil ?_
  refine (X_then (hK42_ _ _ ?_))
  clear hK42_
  refine C_seq (fun K51_ hK51_ => ?_)
  refine A_start (S := fun w => SlRd v44_ (bytesV ((wbody ty (crc n ds) true ds) ++ List.replicate (wpad (wbody ty (crc n ds) true ds).length) 0)) w ∧ Rd cb [(Value.int .u32 (crc n ds))] w ∧ Rd en [(Value.pointer (some ⟨pw, 0, none⟩)), (Value.pointer (some ⟨cb, 0, none⟩)), (Value.slice (some ⟨ub, 0, none⟩) 8 8)] w ∧ Sub R (hp w)) (N := 13) foll rfl rfl ?_
  have H52_ : Holds w46_.drew (ro R :: sl 5 1 v44_ (List.length ((wbody ty (crc n ds) true ds) ++ List.replicate (wpad (wbody ty (crc n ds) true ds).length) 0)) (bytesV ((wbody ty (crc n ds) true ds) ++ List.replicate (wpad (wbody ty (crc n ds) true ds).length) 0)) :: cl rb 106 [(Value.pointer (some ⟨tb, 0, none⟩)), (Value.pointer (some ⟨b19_, 0, none⟩)), (Value.slice (some ⟨db, 0, none⟩) ds.length dc)] :: cl tb 2 [(Value.int .i64 ty)] :: cl b19_ 46 [(Value.int .u32 (crc n ds))] :: cl cb 244 [(Value.int .u32 (crc n ds))] :: cl en 216 [(Value.pointer (some ⟨pw, 0, none⟩)), (Value.pointer (some ⟨cb, 0, none⟩)), (Value.slice (some ⟨ub, 0, none⟩) 8 8)] :: cl ub 5 [c0, c1, c2, c3, c4, c5, c6, c7] :: cl pw 255 [(Value.iface 95 (Value.pointer (some ⟨pg, 0, none⟩))), (Value.int .i64 (po : Int)), (Value.int .i64 4096), (Value.int .i64 (pd.length : Int)), (Value.slice (some ⟨bb, 0, none⟩) 135168 135168), (Value.int .i64 131072)] :: cl bb 5 (bytesV pd ++ junk) :: cl pg 97 [V] :: sl 5 1 V (List.length os) (bytesV os) :: F) := H47_
  have hq53_ := And.intro (Holds.slrd H52_ 1 rfl) (And.intro (Holds.rd H52_ 5 rfl) (And.intro (Holds.rd H52_ 6 rfl) ((Holds.ro_at H52_ 0 rfl))))
  refine A_tk 0 (v := (Value.pointer (some ⟨en, 0, none⟩))) rfl (by kernel_rfl) (fun w hS => x_move rfl) hq53_ ?_
  refine A_tk 1 (v := (Value.pointer (some ⟨en, 0, none⟩))) rfl (by kernel_rfl) (fun w hS => by kernel_rfl) hq53_ ?_
  refine A_tk 2 (v := (Value.pointer (some ⟨en, 0, none⟩))) rfl (by kernel_rfl) (fun w hS => by kernel_rfl) hq53_ ?_
  refine A_tk 3 (v := (Value.pointer (some ⟨pw, 0, none⟩))) rfl (by kernel_rfl) (fun w hS => x_load1 rfl Try.underlying211 rfl (hS.2.2.1 0 (Value.pointer (some ⟨pw, 0, none⟩)) rfl)) hq53_ ?_
  refine A_tk 4 (v := (Value.iface 211 (Value.pointer (some ⟨pw, 0, none⟩)))) rfl (by kernel_rfl) (fun w hS => by kernel_rfl) hq53_ ?_
  refine A_tk 5 (v := (Value.pointer (some ⟨en, 0, none⟩))) rfl (by kernel_rfl) (fun w hS => x_move rfl) hq53_ ?_
  refine A_tk 6 (v := (Value.pointer (some ⟨en, 0, none⟩))) rfl (by kernel_rfl) (fun w hS => by kernel_rfl) hq53_ ?_
  refine A_tk 7 (v := (Value.pointer (some ⟨en, 2, none⟩))) rfl (by kernel_rfl) (fun w hS => by kernel_rfl) hq53_ ?_
  refine A_tk 8 (v := (Value.slice (some ⟨ub, 0, none⟩) 8 8)) rfl (by kernel_rfl) (fun w hS => x_load1 rfl Try.underlying43 rfl (hS.2.2.1 2 (Value.slice (some ⟨ub, 0, none⟩) 8 8) rfl)) hq53_ ?_
  refine A_tk 9 (v := v44_) rfl (by kernel_rfl) (fun w hS => x_move rfl) hq53_ ?_
  refine A_tk 10 (v := (Value.int .u64 (lenField (wbody ty (crc n ds) true ds).length))) rfl (by kernel_rfl) (fun w hS => x_move rfl) hq53_ ?_
  refine A_ready (i := 11) (rs := []) (by kernel_rfl) ?_
  refine AllR.cons ?_ AllR.nil
  have H72_ : Holds w46_.drew (ro R :: sl 5 1 v44_ (List.length ((wbody ty (crc n ds) true ds) ++ List.replicate (wpad (wbody ty (crc n ds) true ds).length) 0)) (bytesV ((wbody ty (crc n ds) true ds) ++ List.replicate (wpad (wbody ty (crc n ds) true ds).length) 0)) :: cl ub 5 [c0, c1, c2, c3, c4, c5, c6, c7] :: cl pw 255 [(Value.iface 95 (Value.pointer (some ⟨pg, 0, none⟩))), (Value.int .i64 (po : Int)), (Value.int .i64 4096), (Value.int .i64 (pd.length : Int)), (Value.slice (some ⟨bb, 0, none⟩) 135168 135168), (Value.int .i64 131072)] :: cl bb 5 (bytesV pd ++ junk) :: cl pg 97 [V] :: sl 5 1 V (List.length os) (bytesV os) :: cl rb 106 [(Value.pointer (some ⟨tb, 0, none⟩)), (Value.pointer (some ⟨b19_, 0, none⟩)), (Value.slice (some ⟨db, 0, none⟩) ds.length dc)] :: cl tb 2 [(Value.int .i64 ty)] :: cl b19_ 46 [(Value.int .u32 (crc n ds))] :: cl cb 244 [(Value.int .u32 (crc n ds))] :: cl en 216 [(Value.pointer (some ⟨pw, 0, none⟩)), (Value.pointer (some ⟨cb, 0, none⟩)), (Value.slice (some ⟨ub, 0, none⟩) 8 8)] :: F) := (Holds.bring (Holds.bring (Holds.bring (Holds.bring (Holds.bring (Holds.bring (Holds.bring H52_ 11 rfl) 11 rfl) 11 rfl) 11 rfl) 11 rfl) 6 rfl) 6 rfl)
  refine A_op (ls' := #[true, true, true, true, true, true, true, true, true, true, true, true, false]) rfl (by kernel_rfl) (T_call (al := [(Value.iface 211 (Value.pointer (some ⟨pw, 0, none⟩))), (Value.slice (some ⟨ub, 0, none⟩) 8 8), v44_, (Value.int .u64 (lenField (wbody ty (crc n ds) true ds).length))]) (pre := [sl 5 1 v44_ (List.length ((wbody ty (crc n ds) true ds) ++ List.replicate (wpad (wbody ty (crc n ds) true ds).length) 0)) (bytesV ((wbody ty (crc n ds) true ds) ++ List.replicate (wpad (wbody ty (crc n ds) true ds).length) 0)), cl ub 5 [c0, c1, c2, c3, c4, c5, c6, c7], cl pw 255 [(Value.iface 95 (Value.pointer (some ⟨pg, 0, none⟩))), (Value.int .i64 (po : Int)), (Value.int .i64 4096), (Value.int .i64 (pd.length : Int)), (Value.slice (some ⟨bb, 0, none⟩) 135168 135168), (Value.int .i64 131072)], cl bb 5 (bytesV pd ++ junk), cl pg 97 [V], sl 5 1 V (List.length os) (bytesV os)]) (F := cl rb 106 [(Value.pointer (some ⟨tb, 0, none⟩)), (Value.pointer (some ⟨b19_, 0, none⟩)), (Value.slice (some ⟨db, 0, none⟩) ds.length dc)] :: cl tb 2 [(Value.int .i64 ty)] :: cl b19_ 46 [(Value.int .u32 (crc n ds))] :: cl cb 244 [(Value.int .u32 (crc n ds))] :: cl en 216 [(Value.pointer (some ⟨pw, 0, none⟩)), (Value.pointer (some ⟨cb, 0, none⟩)), (Value.slice (some ⟨ub, 0, none⟩) 8 8)] :: F) rfl rfl cb103 (Tri.lend (fun h0__ a0__ d0__ => wEmit (un R h0__) ub (lenField (wbody ty (crc n ds) true ds).length) v44_ (wbody ty (crc n ds) true ds ++ List.replicate (wpad (wbody ty (crc n ds) true ds).length) 0) c0 c1 c2 c3 c4 c5 c6 c7 pw bb pg po pd junk V os (RS.set_ (sl_RS a0__ (Sub.un_right d0__)) (by first | rfl | omega | (simp; done) | (simp; omega)) (by first | rfl | omega | (simp; done) | (simp; omega))) (by first | assumption | omega) (by first | assumption | omega) (by first | assumption | omega) (by first | assumption | omega) (by rw [List.length_append, List.length_replicate]; omega))) H72_ ?_)
  rintro v54_ p76_ w73_ ⟨_, rfl, ⟨c055_, c156_, c257_, c358_, c459_, c560_, c661_, c762_, po63_, pd64_, junk65_, V66_, os67_, rfl, rfl, he68_, he69_, he70_, he71_⟩⟩ S75_ H74_
  replace H74_ : Holds w73_ (ro R :: sl 5 1 v44_ (List.length ((wbody ty (crc n ds) true ds) ++ List.replicate (wpad (wbody ty (crc n ds) true ds).length) 0)) (bytesV ((wbody ty (crc n ds) true ds) ++ List.replicate (wpad (wbody ty (crc n ds) true ds).length) 0)) :: cl ub 5 [c055_, c156_, c257_, c358_, c459_, c560_, c661_, c762_] :: cl pw 255 [(Value.iface 95 (Value.pointer (some ⟨pg, 0, none⟩))), (Value.int .i64 (po63_ : Int)), (Value.int .i64 4096), (Value.int .i64 (pd64_.length : Int)), (Value.slice (some ⟨bb, 0, none⟩) 135168 135168), (Value.int .i64 131072)] :: cl bb 5 (bytesV pd64_ ++ junk65_) :: cl pg 97 [V66_] :: sl 5 1 V66_ (List.length os67_) (bytesV os67_) :: cl rb 106 [(Value.pointer (some ⟨tb, 0, none⟩)), (Value.pointer (some ⟨b19_, 0, none⟩)), (Value.slice (some ⟨db, 0, none⟩) ds.length dc)] :: cl tb 2 [(Value.int .i64 ty)] :: cl b19_ 46 [(Value.int .u32 (crc n ds))] :: cl cb 244 [(Value.int .u32 (crc n ds))] :: cl en 216 [(Value.pointer (some ⟨pw, 0, none⟩)), (Value.pointer (some ⟨cb, 0, none⟩)), (Value.slice (some ⟨ub, 0, none⟩) 8 8)] :: F) := H74_
  have S77_ := Same.trans (Same.trans S50_ (Same.drew _)) S75_
  refine ⟨⟨Holds.slrd H74_ 1 rfl, Holds.rd H74_ 10 rfl, Holds.rd H74_ 11 rfl, (Holds.ro_at H74_ 0 rfl)⟩, ?_⟩
  have hq78_ := And.intro (Holds.slrd H74_ 1 rfl) (And.intro (Holds.rd H74_ 10 rfl) (And.intro (Holds.rd H74_ 11 rfl) ((Holds.ro_at H74_ 0 rfl))))
  refine A_tk 12 (v := (Value.nilIface)) rfl (by kernel_rfl) (fun w hS => x_assign rfl) hq78_ ?_
  refine A_done (by kernel_rfl) ?_
  refine (X_then (hK51_ _ _ ?_))
  clear hK51_
  refine C_ret ?_
  refine R_N ?_
  refine leaves_skip Try.func101 rfl rfl (by kernel_rfl) ?_
  refine ⟨(Value.nilIface), run_results1 rfl rfl, ?_⟩
  have H79_ : Holds w73_ (ro R :: cl en 216 [(Value.pointer (some ⟨pw, 0, none⟩)), (Value.pointer (some ⟨cb, 0, none⟩)), (Value.slice (some ⟨ub, 0, none⟩) 8 8)] :: cl cb 244 [(Value.int .u32 (crc n ds))] :: cl ub 5 [c055_, c156_, c257_, c358_, c459_, c560_, c661_, c762_] :: cl pw 255 [(Value.iface 95 (Value.pointer (some ⟨pg, 0, none⟩))), (Value.int .i64 (po63_ : Int)), (Value.int .i64 4096), (Value.int .i64 (pd64_.length : Int)), (Value.slice (some ⟨bb, 0, none⟩) 135168 135168), (Value.int .i64 131072)] :: cl bb 5 (bytesV pd64_ ++ junk65_) :: cl pg 97 [V66_] :: sl 5 1 V66_ (List.length os67_) (bytesV os67_) :: F) := (Holds.erase (Holds.erase (Holds.erase (Holds.erase (Holds.bring (Holds.bring (Holds.bring (Holds.bring (Holds.bring (Holds.bring (Holds.bring (Holds.bring H74_ 6 rfl) 6 rfl) 6 rfl) 6 rfl) 6 rfl) 10 rfl) 11 rfl) 7 rfl) 8) 8) 8) 8)
  exact ⟨_, [cl en 216 [(Value.pointer (some ⟨pw, 0, none⟩)), (Value.pointer (some ⟨cb, 0, none⟩)), (Value.slice (some ⟨ub, 0, none⟩) 8 8)], cl cb 244 [(Value.int .u32 (crc n ds))], cl ub 5 [c055_, c156_, c257_, c358_, c459_, c560_, c661_, c762_], cl pw 255 [(Value.iface 95 (Value.pointer (some ⟨pg, 0, none⟩))), (Value.int .i64 (po63_ : Int)), (Value.int .i64 4096), (Value.int .i64 (pd64_.length : Int)), (Value.slice (some ⟨bb, 0, none⟩) 135168 135168), (Value.int .i64 131072)], cl bb 5 (bytesV pd64_ ++ junk65_), cl pg 97 [V66_], sl 5 1 V66_ (List.length os67_) (bytesV os67_)], rfl, ⟨c055_, c156_, c257_, c358_, c459_, c560_, c661_, c762_, po63_, pd64_, junk65_, V66_, os67_, rfl, rfl, (by first | assumption | omega | exact rfl), (by first | assumption | omega | exact rfl), (by first | assumption | omega | exact rfl), (by rw [he71_, frame_bytes (by omega)])⟩, S77_, H79_⟩
end Go.Proofs.Ytgeggiebefonhaa
