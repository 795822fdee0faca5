/- What a record and the sum of its bytes come to. -/
import Derived.Test.YtgeggiebefonhaaWaA0
set_option linter.unusedVariables false
set_option linter.unusedSimpArgs false
namespace Go.Proofs.Ytgeggiebefonhaa
open Go Go.RowKit Gw

set_option maxHeartbeats 400000 in
theorem wFieldsNil (R : HP) (rb tb cb : Nat) (ty cr : Int) :
    Tri Try.prog 153 #[(Value.pointer (some ⟨rb, 0, none⟩))] R [cl rb 106 [(Value.pointer (some ⟨tb, 0, none⟩)), (Value.pointer (some ⟨cb, 0, none⟩)), (Value.slice none 0 0)], cl tb 2 [(Value.int .i64 ty)], cl cb 46 [(Value.int .u32 cr)]] (fun v__ post__ => ∃ (v' : Value), v__ = v' ∧ post__ = [cl rb 106 [(Value.pointer (some ⟨tb, 0, none⟩)), (Value.pointer (some ⟨cb, 0, none⟩)), (Value.slice none 0 0)], cl tb 2 [(Value.int .i64 ty)], cl cb 46 [(Value.int .u32 cr)], sl 5 1 v' (List.length (wbody ty cr false [])) (bytesV (wbody ty cr false []))]) := by
  have hvt := vi_len ty
  have hvc := vi_len cr
  have hut := u64_range ty
  have huc := u64_range cr
  refine Tri.into (n := 48) (al := [(Value.pointer (some ⟨rb, 0, none⟩))]) Try.func153 rfl Try.ntmps153 rfl rfl fun w F H => ?_
  replace H : Holds w (ro R :: cl rb 106 [(Value.pointer (some ⟨tb, 0, none⟩)), (Value.pointer (some ⟨cb, 0, none⟩)), (Value.slice none 0 0)] :: cl tb 2 [(Value.int .i64 ty)] :: cl cb 46 [(Value.int .u32 cr)] :: F) := H
  refine C_seq (fun K1_ hK1_ => ?_)
  refine C_reg ?_
  refine S_list (T_val (v := (Value.slice none 0 0)) (x_assign rfl) ?_)
  refine wpList_nil ?_
  refine (X_then (hK1_ _ _ ?_))
  clear hK1_
  refine C_seq (fun K2_ hK2_ => ?_)
  refine C_reg ?_
  refine S_list (T_val (v := (Value.slice none 0 0)) (x_assign rfl) ?_)
  refine wpList_nil ?_
  refine (X_then (hK2_ _ _ ?_))
  clear hK2_
  refine C_seq (fun K3_ hK3_ => ?_)
  refine C_seq (fun K4_ hK4_ => ?_)
  refine C_reg ?_
  refine S_list (T_val (v := (Value.pointer (some ⟨rb, 0, none⟩))) (x_move rfl) ?_)
  refine S_list (T_val (v := (Value.pointer (some ⟨rb, 0, none⟩))) (by kernel_rfl) ?_)
  refine S_list (T_val (v := (Value.pointer (some ⟨rb, 0, none⟩))) (by kernel_rfl) ?_)
  refine S_list (T_val (v := (Value.pointer (some ⟨tb, 0, none⟩))) (x_load1 rfl Try.underlying103 rfl ((Holds.rd H 1 rfl) 0 (Value.pointer (some ⟨tb, 0, none⟩)) rfl)) ?_)
  refine S_list (T_val (v := (Value.bool true)) (by kernel_rfl) ?_)
  refine wpList_nil ?_
  refine (X_then (hK4_ _ _ ?_))
  clear hK4_
  refine C_condT rfl ?_
  refine A_start (S := fun w => Rd rb [(Value.pointer (some ⟨tb, 0, none⟩)), (Value.pointer (some ⟨cb, 0, none⟩)), (Value.slice none 0 0)] w ∧ Rd tb [(Value.int .i64 ty)] w ∧ Rd cb [(Value.int .u32 cr)] w ∧ Sub R (hp w)) (N := 12) foll rfl rfl ?_
  have H5_ : Holds w.drew (ro R :: cl rb 106 [(Value.pointer (some ⟨tb, 0, none⟩)), (Value.pointer (some ⟨cb, 0, none⟩)), (Value.slice none 0 0)] :: cl tb 2 [(Value.int .i64 ty)] :: cl cb 46 [(Value.int .u32 cr)] :: F) := H
  have hq6_ := And.intro (Holds.rd H5_ 1 rfl) (And.intro (Holds.rd H5_ 2 rfl) (And.intro (Holds.rd H5_ 3 rfl) ((Holds.ro_at H5_ 0 rfl))))
  refine A_tk 0 (v := (Value.slice none 0 0)) rfl (by kernel_rfl) (fun w hS => x_move rfl) hq6_ ?_
  refine A_tk 3 (v := (Value.pointer (some ⟨rb, 0, none⟩))) rfl (by kernel_rfl) (fun w hS => x_move rfl) hq6_ ?_
  refine A_tk 4 (v := (Value.pointer (some ⟨rb, 0, none⟩))) rfl (by kernel_rfl) (fun w hS => by kernel_rfl) hq6_ ?_
  refine A_tk 5 (v := (Value.pointer (some ⟨rb, 0, none⟩))) rfl (by kernel_rfl) (fun w hS => by kernel_rfl) hq6_ ?_
  refine A_tk 6 (v := (Value.pointer (some ⟨tb, 0, none⟩))) rfl (by kernel_rfl) (fun w hS => x_load1 rfl Try.underlying103 rfl (hS.1 0 (Value.pointer (some ⟨tb, 0, none⟩)) rfl)) hq6_ ?_
  refine A_tk 7 (v := (Value.pointer (some ⟨tb, 0, none⟩))) rfl (by kernel_rfl) (fun w hS => by kernel_rfl) hq6_ ?_
  refine A_tk 8 (v := (Value.int .i64 ty)) rfl (by kernel_rfl) (fun w hS => x_load1 rfl Try.underlying2 rfl (hS.2.1 0 (Value.int .i64 ty) rfl)) hq6_ ?_
  refine A_tk 9 (v := (Value.int .u64 (IntKind.u64.wrap ty))) rfl (by kernel_rfl) (fun w hS => x_convI rfl Try.underlying2 Try.underlying171 rfl) hq6_ ?_
  refine A_ready (i := 1) (rs := []) (by kernel_rfl) ?_
  refine AllR.cons ?_ AllR.nil
  refine A_op (ls' := #[true, true, false, true, true, true, true, true, true, true, false, false]) rfl (by kernel_rfl) (T_new (obj := .cells #[(Value.int .u8 8)] 5) (f := fun b__ => .slice (some ⟨b__, 0, none⟩) 1 1) (A := fun b__ => cl b__ 5 [(Value.int .u8 8)]) (by kernel_rfl) (fun l h => h.alloc _ _) H5_ ?_)
  intro b7_ w8_ S10_ H9_
  replace H9_ : Holds w8_ (cl b7_ 5 [(Value.int .u8 8)] :: ro R :: cl rb 106 [(Value.pointer (some ⟨tb, 0, none⟩)), (Value.pointer (some ⟨cb, 0, none⟩)), (Value.slice none 0 0)] :: cl tb 2 [(Value.int .i64 ty)] :: cl cb 46 [(Value.int .u32 cr)] :: F) := H9_
  have S11_ := Same.trans (Same.trans (Same.refl w) (Same.drew _)) S10_
  refine ⟨⟨Holds.rd H9_ 2 rfl, Holds.rd H9_ 3 rfl, Holds.rd H9_ 4 rfl, (Holds.ro_at H9_ 1 rfl)⟩, ?_⟩
  refine A_ready (i := 2) (rs := []) (by kernel_rfl) ?_
  refine AllR.cons ?_ AllR.nil
  have H12_ : Holds w8_ (sl 5 1 (.slice none 0 0) 0 [] :: cl b7_ 5 [(Value.int .u8 8)] :: ro R :: cl rb 106 [(Value.pointer (some ⟨tb, 0, none⟩)), (Value.pointer (some ⟨cb, 0, none⟩)), (Value.slice none 0 0)] :: cl tb 2 [(Value.int .i64 ty)] :: cl cb 46 [(Value.int .u32 cr)] :: F) := Holds.add_nil H9_ 5 1
  have H13_ : Holds w8_ (sl 5 1 (.slice none 0 0) 0 [] :: sl 5 1 (.slice none 0 0) 0 [] :: cl b7_ 5 [(Value.int .u8 8)] :: ro R :: cl rb 106 [(Value.pointer (some ⟨tb, 0, none⟩)), (Value.pointer (some ⟨cb, 0, none⟩)), (Value.slice none 0 0)] :: cl tb 2 [(Value.int .i64 ty)] :: cl cb 46 [(Value.int .u32 cr)] :: F) := Holds.add_nil H12_ 5 1
  refine A_op (ls' := #[true, true, true, true, true, true, true, true, true, true, false, false]) rfl (by kernel_rfl) (T_append rfl rfl Try.underlying43 z5 rfl (by decide) H13_ 0 rfl (Holds.cl_src H12_ 1 rfl Try.underlying43 (by simp [Value.oneCell']) rfl) (by first | omega | (unfold vi at hvt hvc; simp; omega)) ?_)
  intro v14_ w15_ S17_ H16_
  replace H16_ : Holds w15_ (sl 5 1 v14_ 1 ([] ++ [(Value.int .u8 8)]) :: sl 5 1 (.slice none 0 0) 0 [] :: cl b7_ 5 [(Value.int .u8 8)] :: ro R :: cl rb 106 [(Value.pointer (some ⟨tb, 0, none⟩)), (Value.pointer (some ⟨cb, 0, none⟩)), (Value.slice none 0 0)] :: cl tb 2 [(Value.int .i64 ty)] :: cl cb 46 [(Value.int .u32 cr)] :: F) := H16_
  have S18_ := Same.trans S11_ S17_
  have H19_ : Holds w15_ (sl 5 1 v14_ (List.length ([8] : List Int)) (bytesV ([8] : List Int)) :: sl 5 1 (.slice none 0 0) 0 [] :: cl b7_ 5 [(Value.int .u8 8)] :: ro R :: cl rb 106 [(Value.pointer (some ⟨tb, 0, none⟩)), (Value.pointer (some ⟨cb, 0, none⟩)), (Value.slice none 0 0)] :: cl tb 2 [(Value.int .i64 ty)] :: cl cb 46 [(Value.int .u32 cr)] :: F) := cast2 (P := fun (c__ : List Value) (k__ : Nat) => Holds w15_ (sl 5 1 v14_ k__ c__ :: sl 5 1 (.slice none 0 0) 0 [] :: cl b7_ 5 [(Value.int .u8 8)] :: ro R :: cl rb 106 [(Value.pointer (some ⟨tb, 0, none⟩)), (Value.pointer (some ⟨cb, 0, none⟩)), (Value.slice none 0 0)] :: cl tb 2 [(Value.int .i64 ty)] :: cl cb 46 [(Value.int .u32 cr)] :: F)) (by simp [bytesV] : [] ++ [(Value.int .u8 8)] = bytesV ([8] : List Int)) (by first | (simp; done) | (simp; omega) | (have := RS.blen trivial; simp; omega) : 1 = (List.length ([8] : List Int))) H16_
  refine ⟨⟨Holds.rd H19_ 4 rfl, Holds.rd H19_ 5 rfl, Holds.rd H19_ 6 rfl, (Holds.ro_at H19_ 3 rfl)⟩, ?_⟩
  refine A_ready (i := 10) (rs := []) (by kernel_rfl) ?_
  refine AllR.cons ?_ AllR.nil
  have H21_ : Holds w15_ (ro R :: sl 5 1 v14_ (List.length ([8] : List Int)) (bytesV ([8] : List Int)) :: sl 5 1 (.slice none 0 0) 0 [] :: cl b7_ 5 [(Value.int .u8 8)] :: cl rb 106 [(Value.pointer (some ⟨tb, 0, none⟩)), (Value.pointer (some ⟨cb, 0, none⟩)), (Value.slice none 0 0)] :: cl tb 2 [(Value.int .i64 ty)] :: cl cb 46 [(Value.int .u32 cr)] :: F) := (Holds.bring (Holds.bring H19_ 0 rfl) 3 rfl)
  refine A_op (ls' := #[true, true, true, true, true, true, true, true, true, true, true, false]) rfl (by kernel_rfl) (T_call (al := [v14_, (Value.int .u64 (((IntKind.u64.wrap ty).toNat : Nat) : Int))]) (pre := [sl 5 1 v14_ (List.length ([8] : List Int)) (bytesV ([8] : List Int))]) (F := sl 5 1 (.slice none 0 0) 0 [] :: cl b7_ 5 [(Value.int .u8 8)] :: cl rb 106 [(Value.pointer (some ⟨tb, 0, none⟩)), (Value.pointer (some ⟨cb, 0, none⟩)), (Value.slice none 0 0)] :: cl tb 2 [(Value.int .i64 ty)] :: cl cb 46 [(Value.int .u32 cr)] :: F) rfl (lcons rfl (lcons (congrArg (Value.int .u64) ((by first | rfl | omega | (simp; done) | (simp; omega)) : IntKind.u64.wrap ty = (((IntKind.u64.wrap ty).toNat : Nat) : Int))) rfl)) cb155 (wVint R v14_ ([8] : List Int) ((IntKind.u64.wrap ty).toNat) (by first | assumption | omega) (by simp)) H21_ ?_)
  rintro v20_ p25_ w22_ ⟨_, rfl, rfl⟩ S24_ H23_
  replace H23_ : Holds w22_ (ro R :: sl 5 1 v20_ (List.length (([8] : List Int) ++ vint ((IntKind.u64.wrap ty).toNat))) (bytesV (([8] : List Int) ++ vint ((IntKind.u64.wrap ty).toNat))) :: sl 5 1 (.slice none 0 0) 0 [] :: cl b7_ 5 [(Value.int .u8 8)] :: cl rb 106 [(Value.pointer (some ⟨tb, 0, none⟩)), (Value.pointer (some ⟨cb, 0, none⟩)), (Value.slice none 0 0)] :: cl tb 2 [(Value.int .i64 ty)] :: cl cb 46 [(Value.int .u32 cr)] :: F) := H23_
  have S26_ := Same.trans S18_ S24_
  refine ⟨⟨Holds.rd H23_ 4 rfl, Holds.rd H23_ 5 rfl, Holds.rd H23_ 6 rfl, (Holds.ro_at H23_ 0 rfl)⟩, ?_⟩
  have hq27_ := And.intro (Holds.rd H23_ 4 rfl) (And.intro (Holds.rd H23_ 5 rfl) (And.intro (Holds.rd H23_ 6 rfl) ((Holds.ro_at H23_ 0 rfl))))
  refine A_tk 11 (v := v20_) rfl (by kernel_rfl) (fun w hS => x_assign rfl) hq27_ ?_
  refine A_done (by kernel_rfl) ?_
  refine (X_then (hK3_ _ _ ?_))
  clear hK3_
  refine C_seq (fun K28_ hK28_ => ?_)
  refine C_seq (fun K29_ hK29_ => ?_)
  refine C_reg ?_
  refine S_list (T_val (v := (Value.pointer (some ⟨rb, 0, none⟩))) (x_move rfl) ?_)
  refine S_list (T_val (v := (Value.pointer (some ⟨rb, 0, none⟩))) (by kernel_rfl) ?_)
  refine S_list (T_val (v := (Value.pointer (some ⟨rb, 1, none⟩))) (by kernel_rfl) ?_)
  refine S_list (T_val (v := (Value.pointer (some ⟨cb, 0, none⟩))) (x_load1 rfl Try.underlying104 rfl ((Holds.rd H23_ 4 rfl) 1 (Value.pointer (some ⟨cb, 0, none⟩)) rfl)) ?_)
  refine S_list (T_val (v := (Value.bool true)) (by kernel_rfl) ?_)
  refine wpList_nil ?_
  refine (X_then (hK29_ _ _ ?_))
  clear hK29_
  refine C_condT rfl ?_
  refine A_start (S := fun w => SlRd (.slice none 0 0) [] w ∧ Rd rb [(Value.pointer (some ⟨tb, 0, none⟩)), (Value.pointer (some ⟨cb, 0, none⟩)), (Value.slice none 0 0)] w ∧ Rd tb [(Value.int .i64 ty)] w ∧ Rd cb [(Value.int .u32 cr)] w ∧ Sub R (hp w)) (N := 12) foll rfl rfl ?_
  have H30_ : Holds w22_.drew (ro R :: sl 5 1 v20_ (List.length (([8] : List Int) ++ vint ((IntKind.u64.wrap ty).toNat))) (bytesV (([8] : List Int) ++ vint ((IntKind.u64.wrap ty).toNat))) :: sl 5 1 (.slice none 0 0) 0 [] :: cl b7_ 5 [(Value.int .u8 8)] :: cl rb 106 [(Value.pointer (some ⟨tb, 0, none⟩)), (Value.pointer (some ⟨cb, 0, none⟩)), (Value.slice none 0 0)] :: cl tb 2 [(Value.int .i64 ty)] :: cl cb 46 [(Value.int .u32 cr)] :: F) := H23_
  have hq31_ := And.intro (Holds.slrd H30_ 2 rfl) (And.intro (Holds.rd H30_ 4 rfl) (And.intro (Holds.rd H30_ 5 rfl) (And.intro (Holds.rd H30_ 6 rfl) ((Holds.ro_at H30_ 0 rfl)))))
  refine A_tk 0 (v := v20_) rfl (by kernel_rfl) (fun w hS => x_move rfl) hq31_ ?_
  refine A_tk 3 (v := (Value.pointer (some ⟨rb, 0, none⟩))) rfl (by kernel_rfl) (fun w hS => x_move rfl) hq31_ ?_
  refine A_tk 4 (v := (Value.pointer (some ⟨rb, 0, none⟩))) rfl (by kernel_rfl) (fun w hS => by kernel_rfl) hq31_ ?_
  refine A_tk 5 (v := (Value.pointer (some ⟨rb, 1, none⟩))) rfl (by kernel_rfl) (fun w hS => by kernel_rfl) hq31_ ?_
  refine A_tk 6 (v := (Value.pointer (some ⟨cb, 0, none⟩))) rfl (by kernel_rfl) (fun w hS => x_load1 rfl Try.underlying104 rfl (hS.2.1 1 (Value.pointer (some ⟨cb, 0, none⟩)) rfl)) hq31_ ?_
  refine A_tk 7 (v := (Value.pointer (some ⟨cb, 0, none⟩))) rfl (by kernel_rfl) (fun w hS => by kernel_rfl) hq31_ ?_
  refine A_tk 8 (v := (Value.int .u32 cr)) rfl (by kernel_rfl) (fun w hS => x_load1 rfl Try.underlying46 rfl (hS.2.2.2.1 0 (Value.int .u32 cr) rfl)) hq31_ ?_
  refine A_tk 9 (v := (Value.int .u64 (IntKind.u64.wrap cr))) rfl (by kernel_rfl) (fun w hS => x_convI rfl Try.underlying46 Try.underlying171 rfl) hq31_ ?_
  refine A_ready (i := 1) (rs := []) (by kernel_rfl) ?_
  refine AllR.cons ?_ AllR.nil
  refine A_op (ls' := #[true, true, false, true, true, true, true, true, true, true, false, false]) rfl (by kernel_rfl) (T_new (obj := .cells #[(Value.int .u8 16)] 5) (f := fun b__ => .slice (some ⟨b__, 0, none⟩) 1 1) (A := fun b__ => cl b__ 5 [(Value.int .u8 16)]) (by kernel_rfl) (fun l h => h.alloc _ _) H30_ ?_)
  intro b32_ w33_ S35_ H34_
  replace H34_ : Holds w33_ (cl b32_ 5 [(Value.int .u8 16)] :: ro R :: sl 5 1 v20_ (List.length (([8] : List Int) ++ vint ((IntKind.u64.wrap ty).toNat))) (bytesV (([8] : List Int) ++ vint ((IntKind.u64.wrap ty).toNat))) :: sl 5 1 (.slice none 0 0) 0 [] :: cl b7_ 5 [(Value.int .u8 8)] :: cl rb 106 [(Value.pointer (some ⟨tb, 0, none⟩)), (Value.pointer (some ⟨cb, 0, none⟩)), (Value.slice none 0 0)] :: cl tb 2 [(Value.int .i64 ty)] :: cl cb 46 [(Value.int .u32 cr)] :: F) := H34_
  have S36_ := Same.trans (Same.trans S26_ (Same.drew _)) S35_
  refine ⟨⟨Holds.slrd H34_ 3 rfl, Holds.rd H34_ 5 rfl, Holds.rd H34_ 6 rfl, Holds.rd H34_ 7 rfl, (Holds.ro_at H34_ 1 rfl)⟩, ?_⟩
  refine A_ready (i := 2) (rs := []) (by kernel_rfl) ?_
  refine AllR.cons ?_ AllR.nil
  refine A_op (ls' := #[true, true, true, true, true, true, true, true, true, true, false, false]) rfl (by kernel_rfl) (T_append rfl rfl Try.underlying43 z5 rfl (by decide) H34_ 2 rfl (Holds.cl_src H34_ 0 rfl Try.underlying43 (by simp [Value.oneCell']) rfl) (by first | omega | (unfold vi at hvt hvc; simp; omega)) ?_)
  intro v37_ w38_ S40_ H39_
  replace H39_ : Holds w38_ (cl b32_ 5 [(Value.int .u8 16)] :: ro R :: sl 5 1 v37_ ((List.length (([8] : List Int) ++ vint ((IntKind.u64.wrap ty).toNat))) + 1) ((bytesV (([8] : List Int) ++ vint ((IntKind.u64.wrap ty).toNat))) ++ [(Value.int .u8 16)]) :: sl 5 1 (.slice none 0 0) 0 [] :: cl b7_ 5 [(Value.int .u8 8)] :: cl rb 106 [(Value.pointer (some ⟨tb, 0, none⟩)), (Value.pointer (some ⟨cb, 0, none⟩)), (Value.slice none 0 0)] :: cl tb 2 [(Value.int .i64 ty)] :: cl cb 46 [(Value.int .u32 cr)] :: F) := H39_
  have S41_ := Same.trans S36_ S40_
  have H42_ : Holds w38_ (cl b32_ 5 [(Value.int .u8 16)] :: ro R :: sl 5 1 v37_ (List.length ((([8] : List Int) ++ vint ((IntKind.u64.wrap ty).toNat)) ++ [16])) (bytesV ((([8] : List Int) ++ vint ((IntKind.u64.wrap ty).toNat)) ++ [16])) :: sl 5 1 (.slice none 0 0) 0 [] :: cl b7_ 5 [(Value.int .u8 8)] :: cl rb 106 [(Value.pointer (some ⟨tb, 0, none⟩)), (Value.pointer (some ⟨cb, 0, none⟩)), (Value.slice none 0 0)] :: cl tb 2 [(Value.int .i64 ty)] :: cl cb 46 [(Value.int .u32 cr)] :: F) := cast2 (P := fun (c__ : List Value) (k__ : Nat) => Holds w38_ (cl b32_ 5 [(Value.int .u8 16)] :: ro R :: sl 5 1 v37_ k__ c__ :: sl 5 1 (.slice none 0 0) 0 [] :: cl b7_ 5 [(Value.int .u8 8)] :: cl rb 106 [(Value.pointer (some ⟨tb, 0, none⟩)), (Value.pointer (some ⟨cb, 0, none⟩)), (Value.slice none 0 0)] :: cl tb 2 [(Value.int .i64 ty)] :: cl cb 46 [(Value.int .u32 cr)] :: F)) (by simp [bytesV] : (bytesV (([8] : List Int) ++ vint ((IntKind.u64.wrap ty).toNat))) ++ [(Value.int .u8 16)] = bytesV ((([8] : List Int) ++ vint ((IntKind.u64.wrap ty).toNat)) ++ [16])) (by first | (simp; done) | (simp; omega) | (have := RS.blen trivial; simp; omega) : (List.length (([8] : List Int) ++ vint ((IntKind.u64.wrap ty).toNat))) + 1 = (List.length ((([8] : List Int) ++ vint ((IntKind.u64.wrap ty).toNat)) ++ [16]))) H39_
  refine ⟨⟨Holds.slrd H42_ 3 rfl, Holds.rd H42_ 5 rfl, Holds.rd H42_ 6 rfl, Holds.rd H42_ 7 rfl, (Holds.ro_at H42_ 1 rfl)⟩, ?_⟩
  refine A_ready (i := 10) (rs := []) (by kernel_rfl) ?_
  refine AllR.cons ?_ AllR.nil
  have H44_ : Holds w38_ (ro R :: sl 5 1 v37_ (List.length ((([8] : List Int) ++ vint ((IntKind.u64.wrap ty).toNat)) ++ [16])) (bytesV ((([8] : List Int) ++ vint ((IntKind.u64.wrap ty).toNat)) ++ [16])) :: cl b32_ 5 [(Value.int .u8 16)] :: sl 5 1 (.slice none 0 0) 0 [] :: cl b7_ 5 [(Value.int .u8 8)] :: cl rb 106 [(Value.pointer (some ⟨tb, 0, none⟩)), (Value.pointer (some ⟨cb, 0, none⟩)), (Value.slice none 0 0)] :: cl tb 2 [(Value.int .i64 ty)] :: cl cb 46 [(Value.int .u32 cr)] :: F) := (Holds.bring (Holds.bring H42_ 2 rfl) 2 rfl)
  refine A_op (ls' := #[true, true, true, true, true, true, true, true, true, true, true, false]) rfl (by kernel_rfl) (T_call (al := [v37_, (Value.int .u64 (((IntKind.u64.wrap cr).toNat : Nat) : Int))]) (pre := [sl 5 1 v37_ (List.length ((([8] : List Int) ++ vint ((IntKind.u64.wrap ty).toNat)) ++ [16])) (bytesV ((([8] : List Int) ++ vint ((IntKind.u64.wrap ty).toNat)) ++ [16]))]) (F := cl b32_ 5 [(Value.int .u8 16)] :: sl 5 1 (.slice none 0 0) 0 [] :: cl b7_ 5 [(Value.int .u8 8)] :: cl rb 106 [(Value.pointer (some ⟨tb, 0, none⟩)), (Value.pointer (some ⟨cb, 0, none⟩)), (Value.slice none 0 0)] :: cl tb 2 [(Value.int .i64 ty)] :: cl cb 46 [(Value.int .u32 cr)] :: F) rfl (lcons rfl (lcons (congrArg (Value.int .u64) ((by first | rfl | omega | (simp; done) | (simp; omega)) : IntKind.u64.wrap cr = (((IntKind.u64.wrap cr).toNat : Nat) : Int))) rfl)) cb155 (wVint R v37_ ((([8] : List Int) ++ vint ((IntKind.u64.wrap ty).toNat)) ++ [16]) ((IntKind.u64.wrap cr).toNat) (by first | assumption | omega) (by unfold vi at hvt; simp; omega)) H44_ ?_)
  rintro v43_ p48_ w45_ ⟨_, rfl, rfl⟩ S47_ H46_
  replace H46_ : Holds w45_ (ro R :: sl 5 1 v43_ (List.length (((([8] : List Int) ++ vint ((IntKind.u64.wrap ty).toNat)) ++ [16]) ++ vint ((IntKind.u64.wrap cr).toNat))) (bytesV (((([8] : List Int) ++ vint ((IntKind.u64.wrap ty).toNat)) ++ [16]) ++ vint ((IntKind.u64.wrap cr).toNat))) :: cl b32_ 5 [(Value.int .u8 16)] :: sl 5 1 (.slice none 0 0) 0 [] :: cl b7_ 5 [(Value.int .u8 8)] :: cl rb 106 [(Value.pointer (some ⟨tb, 0, none⟩)), (Value.pointer (some ⟨cb, 0, none⟩)), (Value.slice none 0 0)] :: cl tb 2 [(Value.int .i64 ty)] :: cl cb 46 [(Value.int .u32 cr)] :: F) := H46_
  have S49_ := Same.trans S41_ S47_
  refine ⟨⟨Holds.slrd H46_ 3 rfl, Holds.rd H46_ 5 rfl, Holds.rd H46_ 6 rfl, Holds.rd H46_ 7 rfl, (Holds.ro_at H46_ 0 rfl)⟩, ?_⟩
  have hq50_ := And.intro (Holds.slrd H46_ 3 rfl) (And.intro (Holds.rd H46_ 5 rfl) (And.intro (Holds.rd H46_ 6 rfl) (And.intro (Holds.rd H46_ 7 rfl) ((Holds.ro_at H46_ 0 rfl)))))
  refine A_tk 11 (v := v43_) rfl (by kernel_rfl) (fun w hS => x_assign rfl) hq50_ ?_
  refine A_done (by kernel_rfl) ?_
  refine (X_then (hK28_ _ _ ?_))
  clear hK28_
  refine C_seq (fun K51_ hK51_ => ?_)
  refine C_seq (fun K52_ hK52_ => ?_)
  refine C_reg ?_
  refine S_list (T_val (v := (Value.pointer (some ⟨rb, 0, none⟩))) (x_move rfl) ?_)
  refine S_list (T_val (v := (Value.pointer (some ⟨rb, 0, none⟩))) (by kernel_rfl) ?_)
  refine S_list (T_val (v := (Value.pointer (some ⟨rb, 2, none⟩))) (by kernel_rfl) ?_)
  refine S_list (T_val (v := (Value.slice none 0 0)) (x_load1 rfl Try.underlying43 rfl ((Holds.rd H46_ 5 rfl) 2 (Value.slice none 0 0) rfl)) ?_)
  refine S_list (T_val (v := (Value.bool false)) (by kernel_rfl) ?_)
  refine wpList_nil ?_
  refine (X_then (hK52_ _ _ ?_))
  clear hK52_
  refine C_condF rfl ?_
  refine C_skip (X_then (hK51_ _ _ ?_))
  clear hK51_
  refine C_seq (fun K53_ hK53_ => ?_)
  refine C_reg ?_
  refine S_list (T_val (v := v43_) (x_move rfl) ?_)
  refine S_list (T_val (v := v43_) (x_assign rfl) ?_)
  refine wpList_nil ?_
  refine (X_then (hK53_ _ _ ?_))
  clear hK53_
  refine C_ret ?_
  refine R_any (v := v43_) (run_results1 rfl rfl) ?_
  have H54_ : Holds w45_ (ro R :: sl 5 1 v43_ (List.length (wbody ty cr false [])) (bytesV (wbody ty cr false [])) :: cl b32_ 5 [(Value.int .u8 16)] :: sl 5 1 (.slice none 0 0) 0 [] :: cl b7_ 5 [(Value.int .u8 8)] :: cl rb 106 [(Value.pointer (some ⟨tb, 0, none⟩)), (Value.pointer (some ⟨cb, 0, none⟩)), (Value.slice none 0 0)] :: cl tb 2 [(Value.int .i64 ty)] :: cl cb 46 [(Value.int .u32 cr)] :: F) := cast2 (P := fun (c__ : List Value) (k__ : Nat) => Holds w45_ (ro R :: sl 5 1 v43_ k__ c__ :: cl b32_ 5 [(Value.int .u8 16)] :: sl 5 1 (.slice none 0 0) 0 [] :: cl b7_ 5 [(Value.int .u8 8)] :: cl rb 106 [(Value.pointer (some ⟨tb, 0, none⟩)), (Value.pointer (some ⟨cb, 0, none⟩)), (Value.slice none 0 0)] :: cl tb 2 [(Value.int .i64 ty)] :: cl cb 46 [(Value.int .u32 cr)] :: F)) ((by simp [wbody, vi]) : bytesV (((([8] : List Int) ++ vint ((IntKind.u64.wrap ty).toNat)) ++ [16]) ++ vint ((IntKind.u64.wrap cr).toNat)) = bytesV (wbody ty cr false [])) ((by simp [wbody, vi]) : (List.length (((([8] : List Int) ++ vint ((IntKind.u64.wrap ty).toNat)) ++ [16]) ++ vint ((IntKind.u64.wrap cr).toNat))) = (List.length (wbody ty cr false []))) H46_
  have H55_ : Holds w45_ (ro R :: cl rb 106 [(Value.pointer (some ⟨tb, 0, none⟩)), (Value.pointer (some ⟨cb, 0, none⟩)), (Value.slice none 0 0)] :: cl tb 2 [(Value.int .i64 ty)] :: cl cb 46 [(Value.int .u32 cr)] :: sl 5 1 v43_ (List.length (wbody ty cr false [])) (bytesV (wbody ty cr false [])) :: F) := (Holds.erase (Holds.erase (Holds.erase (Holds.bring (Holds.bring (Holds.bring (Holds.bring (Holds.bring H54_ 1 rfl) 7 rfl) 7 rfl) 7 rfl) 4 rfl) 5) 5) 5)
  exact ⟨_, [cl rb 106 [(Value.pointer (some ⟨tb, 0, none⟩)), (Value.pointer (some ⟨cb, 0, none⟩)), (Value.slice none 0 0)], cl tb 2 [(Value.int .i64 ty)], cl cb 46 [(Value.int .u32 cr)], sl 5 1 v43_ (List.length (wbody ty cr false [])) (bytesV (wbody ty cr false []))], rfl, ⟨v43_, rfl, rfl⟩, S49_, H55_⟩

set_option maxHeartbeats 400000 in
theorem wFieldsSome (R : HP) (rb tb cb : Nat) (ty cr : Int) (db dc : Nat) (ds : List Int) (hD : RS R 1 (Value.slice (some ⟨db, 0, none⟩) ds.length dc) ds.length (bytesV ds)) (q1 : ds.length ≤ 1000000) :
    Tri Try.prog 153 #[(Value.pointer (some ⟨rb, 0, none⟩))] R [cl rb 106 [(Value.pointer (some ⟨tb, 0, none⟩)), (Value.pointer (some ⟨cb, 0, none⟩)), (Value.slice (some ⟨db, 0, none⟩) ds.length dc)], cl tb 2 [(Value.int .i64 ty)], cl cb 46 [(Value.int .u32 cr)]] (fun v__ post__ => ∃ (v' : Value), v__ = v' ∧ post__ = [cl rb 106 [(Value.pointer (some ⟨tb, 0, none⟩)), (Value.pointer (some ⟨cb, 0, none⟩)), (Value.slice (some ⟨db, 0, none⟩) ds.length dc)], cl tb 2 [(Value.int .i64 ty)], cl cb 46 [(Value.int .u32 cr)], sl 5 1 v' (List.length (wbody ty cr true ds)) (bytesV (wbody ty cr true ds))]) := by
  have hvt := vi_len ty
  have hvc := vi_len cr
  have hut := u64_range ty
  have huc := u64_range cr
  refine Tri.into (n := 48) (al := [(Value.pointer (some ⟨rb, 0, none⟩))]) Try.func153 rfl Try.ntmps153 rfl rfl fun w F H => ?_
  replace H : Holds w (ro R :: cl rb 106 [(Value.pointer (some ⟨tb, 0, none⟩)), (Value.pointer (some ⟨cb, 0, none⟩)), (Value.slice (some ⟨db, 0, none⟩) ds.length dc)] :: cl tb 2 [(Value.int .i64 ty)] :: cl cb 46 [(Value.int .u32 cr)] :: F) := H
  refine C_seq (fun K1_ hK1_ => ?_)
  refine C_reg ?_
  refine S_list (T_val (v := (Value.slice none 0 0)) (x_assign rfl) ?_)
  refine wpList_nil ?_
  refine (X_then (hK1_ _ _ ?_))
  clear hK1_
  refine C_seq (fun K2_ hK2_ => ?_)
  refine C_reg ?_
  refine S_list (T_val (v := (Value.slice none 0 0)) (x_assign rfl) ?_)
  refine wpList_nil ?_
  refine (X_then (hK2_ _ _ ?_))
  clear hK2_
  refine C_seq (fun K3_ hK3_ => ?_)
  refine C_seq (fun K4_ hK4_ => ?_)
  refine C_reg ?_
  refine S_list (T_val (v := (Value.pointer (some ⟨rb, 0, none⟩))) (x_move rfl) ?_)
  refine S_list (T_val (v := (Value.pointer (some ⟨rb, 0, none⟩))) (by kernel_rfl) ?_)
  refine S_list (T_val (v := (Value.pointer (some ⟨rb, 0, none⟩))) (by kernel_rfl) ?_)
  refine S_list (T_val (v := (Value.pointer (some ⟨tb, 0, none⟩))) (x_load1 rfl Try.underlying103 rfl ((Holds.rd H 1 rfl) 0 (Value.pointer (some ⟨tb, 0, none⟩)) rfl)) ?_)
  refine S_list (T_val (v := (Value.bool true)) (by kernel_rfl) ?_)
  refine wpList_nil ?_
  refine (X_then (hK4_ _ _ ?_))
  clear hK4_
  refine C_condT rfl ?_
  refine A_start (S := fun w => Rd rb [(Value.pointer (some ⟨tb, 0, none⟩)), (Value.pointer (some ⟨cb, 0, none⟩)), (Value.slice (some ⟨db, 0, none⟩) ds.length dc)] w ∧ Rd tb [(Value.int .i64 ty)] w ∧ Rd cb [(Value.int .u32 cr)] w ∧ Sub R (hp w)) (N := 12) foll rfl rfl ?_
  have H5_ : Holds w.drew (ro R :: cl rb 106 [(Value.pointer (some ⟨tb, 0, none⟩)), (Value.pointer (some ⟨cb, 0, none⟩)), (Value.slice (some ⟨db, 0, none⟩) ds.length dc)] :: cl tb 2 [(Value.int .i64 ty)] :: cl cb 46 [(Value.int .u32 cr)] :: F) := H
  have hq6_ := And.intro (Holds.rd H5_ 1 rfl) (And.intro (Holds.rd H5_ 2 rfl) (And.intro (Holds.rd H5_ 3 rfl) ((Holds.ro_at H5_ 0 rfl))))
  refine A_tk 0 (v := (Value.slice none 0 0)) rfl (by kernel_rfl) (fun w hS => x_move rfl) hq6_ ?_
  refine A_tk 3 (v := (Value.pointer (some ⟨rb, 0, none⟩))) rfl (by kernel_rfl) (fun w hS => x_move rfl) hq6_ ?_
  refine A_tk 4 (v := (Value.pointer (some ⟨rb, 0, none⟩))) rfl (by kernel_rfl) (fun w hS => by kernel_rfl) hq6_ ?_
  refine A_tk 5 (v := (Value.pointer (some ⟨rb, 0, none⟩))) rfl (by kernel_rfl) (fun w hS => by kernel_rfl) hq6_ ?_
  refine A_tk 6 (v := (Value.pointer (some ⟨tb, 0, none⟩))) rfl (by kernel_rfl) (fun w hS => x_load1 rfl Try.underlying103 rfl (hS.1 0 (Value.pointer (some ⟨tb, 0, none⟩)) rfl)) hq6_ ?_
  refine A_tk 7 (v := (Value.pointer (some ⟨tb, 0, none⟩))) rfl (by kernel_rfl) (fun w hS => by kernel_rfl) hq6_ ?_
  refine A_tk 8 (v := (Value.int .i64 ty)) rfl (by kernel_rfl) (fun w hS => x_load1 rfl Try.underlying2 rfl (hS.2.1 0 (Value.int .i64 ty) rfl)) hq6_ ?_
  refine A_tk 9 (v := (Value.int .u64 (IntKind.u64.wrap ty))) rfl (by kernel_rfl) (fun w hS => x_convI rfl Try.underlying2 Try.underlying171 rfl) hq6_ ?_
  refine A_ready (i := 1) (rs := []) (by kernel_rfl) ?_
  refine AllR.cons ?_ AllR.nil
  refine A_op (ls' := #[true, true, false, true, true, true, true, true, true, true, false, false]) rfl (by kernel_rfl) (T_new (obj := .cells #[(Value.int .u8 8)] 5) (f := fun b__ => .slice (some ⟨b__, 0, none⟩) 1 1) (A := fun b__ => cl b__ 5 [(Value.int .u8 8)]) (by kernel_rfl) (fun l h => h.alloc _ _) H5_ ?_)
  intro b7_ w8_ S10_ H9_
  replace H9_ : Holds w8_ (cl b7_ 5 [(Value.int .u8 8)] :: ro R :: cl rb 106 [(Value.pointer (some ⟨tb, 0, none⟩)), (Value.pointer (some ⟨cb, 0, none⟩)), (Value.slice (some ⟨db, 0, none⟩) ds.length dc)] :: cl tb 2 [(Value.int .i64 ty)] :: cl cb 46 [(Value.int .u32 cr)] :: F) := H9_
  have S11_ := Same.trans (Same.trans (Same.refl w) (Same.drew _)) S10_
  refine ⟨⟨Holds.rd H9_ 2 rfl, Holds.rd H9_ 3 rfl, Holds.rd H9_ 4 rfl, (Holds.ro_at H9_ 1 rfl)⟩, ?_⟩
  refine A_ready (i := 2) (rs := []) (by kernel_rfl) ?_
  refine AllR.cons ?_ AllR.nil
  have H12_ : Holds w8_ (sl 5 1 (.slice none 0 0) 0 [] :: cl b7_ 5 [(Value.int .u8 8)] :: ro R :: cl rb 106 [(Value.pointer (some ⟨tb, 0, none⟩)), (Value.pointer (some ⟨cb, 0, none⟩)), (Value.slice (some ⟨db, 0, none⟩) ds.length dc)] :: cl tb 2 [(Value.int .i64 ty)] :: cl cb 46 [(Value.int .u32 cr)] :: F) := Holds.add_nil H9_ 5 1
  have H13_ : Holds w8_ (sl 5 1 (.slice none 0 0) 0 [] :: sl 5 1 (.slice none 0 0) 0 [] :: cl b7_ 5 [(Value.int .u8 8)] :: ro R :: cl rb 106 [(Value.pointer (some ⟨tb, 0, none⟩)), (Value.pointer (some ⟨cb, 0, none⟩)), (Value.slice (some ⟨db, 0, none⟩) ds.length dc)] :: cl tb 2 [(Value.int .i64 ty)] :: cl cb 46 [(Value.int .u32 cr)] :: F) := Holds.add_nil H12_ 5 1
  refine A_op (ls' := #[true, true, true, true, true, true, true, true, true, true, false, false]) rfl (by kernel_rfl) (T_append rfl rfl Try.underlying43 z5 rfl (by decide) H13_ 0 rfl (Holds.cl_src H12_ 1 rfl Try.underlying43 (by simp [Value.oneCell']) rfl) (by first | omega | (unfold vi at hvt hvc; simp; omega)) ?_)
  intro v14_ w15_ S17_ H16_
  replace H16_ : Holds w15_ (sl 5 1 v14_ 1 ([] ++ [(Value.int .u8 8)]) :: sl 5 1 (.slice none 0 0) 0 [] :: cl b7_ 5 [(Value.int .u8 8)] :: ro R :: cl rb 106 [(Value.pointer (some ⟨tb, 0, none⟩)), (Value.pointer (some ⟨cb, 0, none⟩)), (Value.slice (some ⟨db, 0, none⟩) ds.length dc)] :: cl tb 2 [(Value.int .i64 ty)] :: cl cb 46 [(Value.int .u32 cr)] :: F) := H16_
  have S18_ := Same.trans S11_ S17_
  have H19_ : Holds w15_ (sl 5 1 v14_ (List.length ([8] : List Int)) (bytesV ([8] : List Int)) :: sl 5 1 (.slice none 0 0) 0 [] :: cl b7_ 5 [(Value.int .u8 8)] :: ro R :: cl rb 106 [(Value.pointer (some ⟨tb, 0, none⟩)), (Value.pointer (some ⟨cb, 0, none⟩)), (Value.slice (some ⟨db, 0, none⟩) ds.length dc)] :: cl tb 2 [(Value.int .i64 ty)] :: cl cb 46 [(Value.int .u32 cr)] :: F) := cast2 (P := fun (c__ : List Value) (k__ : Nat) => Holds w15_ (sl 5 1 v14_ k__ c__ :: sl 5 1 (.slice none 0 0) 0 [] :: cl b7_ 5 [(Value.int .u8 8)] :: ro R :: cl rb 106 [(Value.pointer (some ⟨tb, 0, none⟩)), (Value.pointer (some ⟨cb, 0, none⟩)), (Value.slice (some ⟨db, 0, none⟩) ds.length dc)] :: cl tb 2 [(Value.int .i64 ty)] :: cl cb 46 [(Value.int .u32 cr)] :: F)) (by simp [bytesV] : [] ++ [(Value.int .u8 8)] = bytesV ([8] : List Int)) (by first | (simp; done) | (simp; omega) | (have := RS.blen trivial; simp; omega) : 1 = (List.length ([8] : List Int))) H16_
  refine ⟨⟨Holds.rd H19_ 4 rfl, Holds.rd H19_ 5 rfl, Holds.rd H19_ 6 rfl, (Holds.ro_at H19_ 3 rfl)⟩, ?_⟩
  refine A_ready (i := 10) (rs := []) (by kernel_rfl) ?_
  refine AllR.cons ?_ AllR.nil
  have H21_ : Holds w15_ (ro R :: sl 5 1 v14_ (List.length ([8] : List Int)) (bytesV ([8] : List Int)) :: sl 5 1 (.slice none 0 0) 0 [] :: cl b7_ 5 [(Value.int .u8 8)] :: cl rb 106 [(Value.pointer (some ⟨tb, 0, none⟩)), (Value.pointer (some ⟨cb, 0, none⟩)), (Value.slice (some ⟨db, 0, none⟩) ds.length dc)] :: cl tb 2 [(Value.int .i64 ty)] :: cl cb 46 [(Value.int .u32 cr)] :: F) := (Holds.bring (Holds.bring H19_ 0 rfl) 3 rfl)
  refine A_op (ls' := #[true, true, true, true, true, true, true, true, true, true, true, false]) rfl (by kernel_rfl) (T_call (al := [v14_, (Value.int .u64 (((IntKind.u64.wrap ty).toNat : Nat) : Int))]) (pre := [sl 5 1 v14_ (List.length ([8] : List Int)) (bytesV ([8] : List Int))]) (F := sl 5 1 (.slice none 0 0) 0 [] :: cl b7_ 5 [(Value.int .u8 8)] :: cl rb 106 [(Value.pointer (some ⟨tb, 0, none⟩)), (Value.pointer (some ⟨cb, 0, none⟩)), (Value.slice (some ⟨db, 0, none⟩) ds.length dc)] :: cl tb 2 [(Value.int .i64 ty)] :: cl cb 46 [(Value.int .u32 cr)] :: F) rfl (lcons rfl (lcons (congrArg (Value.int .u64) ((by first | rfl | omega | (simp; done) | (simp; omega)) : IntKind.u64.wrap ty = (((IntKind.u64.wrap ty).toNat : Nat) : Int))) rfl)) cb155 (wVint R v14_ ([8] : List Int) ((IntKind.u64.wrap ty).toNat) (by first | assumption | omega) (by simp)) H21_ ?_)
  rintro v20_ p25_ w22_ ⟨_, rfl, rfl⟩ S24_ H23_
  replace H23_ : Holds w22_ (ro R :: sl 5 1 v20_ (List.length (([8] : List Int) ++ vint ((IntKind.u64.wrap ty).toNat))) (bytesV (([8] : List Int) ++ vint ((IntKind.u64.wrap ty).toNat))) :: sl 5 1 (.slice none 0 0) 0 [] :: cl b7_ 5 [(Value.int .u8 8)] :: cl rb 106 [(Value.pointer (some ⟨tb, 0, none⟩)), (Value.pointer (some ⟨cb, 0, none⟩)), (Value.slice (some ⟨db, 0, none⟩) ds.length dc)] :: cl tb 2 [(Value.int .i64 ty)] :: cl cb 46 [(Value.int .u32 cr)] :: F) := H23_
  have S26_ := Same.trans S18_ S24_
  refine ⟨⟨Holds.rd H23_ 4 rfl, Holds.rd H23_ 5 rfl, Holds.rd H23_ 6 rfl, (Holds.ro_at H23_ 0 rfl)⟩, ?_⟩
  have hq27_ := And.intro (Holds.rd H23_ 4 rfl) (And.intro (Holds.rd H23_ 5 rfl) (And.intro (Holds.rd H23_ 6 rfl) ((Holds.ro_at H23_ 0 rfl))))
  refine A_tk 11 (v := v20_) rfl (by kernel_rfl) (fun w hS => x_assign rfl) hq27_ ?_
  refine A_done (by kernel_rfl) ?_
  refine (X_then (hK3_ _ _ ?_))
  clear hK3_
  refine C_seq (fun K28_ hK28_ => ?_)
  refine C_seq (fun K29_ hK29_ => ?_)
  refine C_reg ?_
  refine S_list (T_val (v := (Value.pointer (some ⟨rb, 0, none⟩))) (x_move rfl) ?_)
  refine S_list (T_val (v := (Value.pointer (some ⟨rb, 0, none⟩))) (by kernel_rfl) ?_)
  refine S_list (T_val (v := (Value.pointer (some ⟨rb, 1, none⟩))) (by kernel_rfl) ?_)
  refine S_list (T_val (v := (Value.pointer (some ⟨cb, 0, none⟩))) (x_load1 rfl Try.underlying104 rfl ((Holds.rd H23_ 4 rfl) 1 (Value.pointer (some ⟨cb, 0, none⟩)) rfl)) ?_)
  refine S_list (T_val (v := (Value.bool true)) (by kernel_rfl) ?_)
  refine wpList_nil ?_
  refine (X_then (hK29_ _ _ ?_))
  clear hK29_
  refine C_condT rfl ?_
  refine A_start (S := fun w => SlRd (.slice none 0 0) [] w ∧ Rd rb [(Value.pointer (some ⟨tb, 0, none⟩)), (Value.pointer (some ⟨cb, 0, none⟩)), (Value.slice (some ⟨db, 0, none⟩) ds.length dc)] w ∧ Rd tb [(Value.int .i64 ty)] w ∧ Rd cb [(Value.int .u32 cr)] w ∧ Sub R (hp w)) (N := 12) foll rfl rfl ?_
  have H30_ : Holds w22_.drew (ro R :: sl 5 1 v20_ (List.length (([8] : List Int) ++ vint ((IntKind.u64.wrap ty).toNat))) (bytesV (([8] : List Int) ++ vint ((IntKind.u64.wrap ty).toNat))) :: sl 5 1 (.slice none 0 0) 0 [] :: cl b7_ 5 [(Value.int .u8 8)] :: cl rb 106 [(Value.pointer (some ⟨tb, 0, none⟩)), (Value.pointer (some ⟨cb, 0, none⟩)), (Value.slice (some ⟨db, 0, none⟩) ds.length dc)] :: cl tb 2 [(Value.int .i64 ty)] :: cl cb 46 [(Value.int .u32 cr)] :: F) := H23_
  have hq31_ := And.intro (Holds.slrd H30_ 2 rfl) (And.intro (Holds.rd H30_ 4 rfl) (And.intro (Holds.rd H30_ 5 rfl) (And.intro (Holds.rd H30_ 6 rfl) ((Holds.ro_at H30_ 0 rfl)))))
  refine A_tk 0 (v := v20_) rfl (by kernel_rfl) (fun w hS => x_move rfl) hq31_ ?_
  refine A_tk 3 (v := (Value.pointer (some ⟨rb, 0, none⟩))) rfl (by kernel_rfl) (fun w hS => x_move rfl) hq31_ ?_
  refine A_tk 4 (v := (Value.pointer (some ⟨rb, 0, none⟩))) rfl (by kernel_rfl) (fun w hS => by kernel_rfl) hq31_ ?_
  refine A_tk 5 (v := (Value.pointer (some ⟨rb, 1, none⟩))) rfl (by kernel_rfl) (fun w hS => by kernel_rfl) hq31_ ?_
  refine A_tk 6 (v := (Value.pointer (some ⟨cb, 0, none⟩))) rfl (by kernel_rfl) (fun w hS => x_load1 rfl Try.underlying104 rfl (hS.2.1 1 (Value.pointer (some ⟨cb, 0, none⟩)) rfl)) hq31_ ?_
  refine A_tk 7 (v := (Value.pointer (some ⟨cb, 0, none⟩))) rfl (by kernel_rfl) (fun w hS => by kernel_rfl) hq31_ ?_
  refine A_tk 8 (v := (Value.int .u32 cr)) rfl (by kernel_rfl) (fun w hS => x_load1 rfl Try.underlying46 rfl (hS.2.2.2.1 0 (Value.int .u32 cr) rfl)) hq31_ ?_
  refine A_tk 9 (v := (Value.int .u64 (IntKind.u64.wrap cr))) rfl (by kernel_rfl) (fun w hS => x_convI rfl Try.underlying46 Try.underlying171 rfl) hq31_ ?_
  refine A_ready (i := 1) (rs := []) (by kernel_rfl) ?_
  refine AllR.cons ?_ AllR.nil
  refine A_op (ls' := #[true, true, false, true, true, true, true, true, true, true, false, false]) rfl (by kernel_rfl) (T_new (obj := .cells #[(Value.int .u8 16)] 5) (f := fun b__ => .slice (some ⟨b__, 0, none⟩) 1 1) (A := fun b__ => cl b__ 5 [(Value.int .u8 16)]) (by kernel_rfl) (fun l h => h.alloc _ _) H30_ ?_)
  intro b32_ w33_ S35_ H34_
  replace H34_ : Holds w33_ (cl b32_ 5 [(Value.int .u8 16)] :: ro R :: sl 5 1 v20_ (List.length (([8] : List Int) ++ vint ((IntKind.u64.wrap ty).toNat))) (bytesV (([8] : List Int) ++ vint ((IntKind.u64.wrap ty).toNat))) :: sl 5 1 (.slice none 0 0) 0 [] :: cl b7_ 5 [(Value.int .u8 8)] :: cl rb 106 [(Value.pointer (some ⟨tb, 0, none⟩)), (Value.pointer (some ⟨cb, 0, none⟩)), (Value.slice (some ⟨db, 0, none⟩) ds.length dc)] :: cl tb 2 [(Value.int .i64 ty)] :: cl cb 46 [(Value.int .u32 cr)] :: F) := H34_
  have S36_ := Same.trans (Same.trans S26_ (Same.drew _)) S35_
  refine ⟨⟨Holds.slrd H34_ 3 rfl, Holds.rd H34_ 5 rfl, Holds.rd H34_ 6 rfl, Holds.rd H34_ 7 rfl, (Holds.ro_at H34_ 1 rfl)⟩, ?_⟩
  refine A_ready (i := 2) (rs := []) (by kernel_rfl) ?_
  refine AllR.cons ?_ AllR.nil
  refine A_op (ls' := #[true, true, true, true, true, true, true, true, true, true, false, false]) rfl (by kernel_rfl) (T_append rfl rfl Try.underlying43 z5 rfl (by decide) H34_ 2 rfl (Holds.cl_src H34_ 0 rfl Try.underlying43 (by simp [Value.oneCell']) rfl) (by first | omega | (unfold vi at hvt hvc; simp; omega)) ?_)
  intro v37_ w38_ S40_ H39_
  replace H39_ : Holds w38_ (cl b32_ 5 [(Value.int .u8 16)] :: ro R :: sl 5 1 v37_ ((List.length (([8] : List Int) ++ vint ((IntKind.u64.wrap ty).toNat))) + 1) ((bytesV (([8] : List Int) ++ vint ((IntKind.u64.wrap ty).toNat))) ++ [(Value.int .u8 16)]) :: sl 5 1 (.slice none 0 0) 0 [] :: cl b7_ 5 [(Value.int .u8 8)] :: cl rb 106 [(Value.pointer (some ⟨tb, 0, none⟩)), (Value.pointer (some ⟨cb, 0, none⟩)), (Value.slice (some ⟨db, 0, none⟩) ds.length dc)] :: cl tb 2 [(Value.int .i64 ty)] :: cl cb 46 [(Value.int .u32 cr)] :: F) := H39_
  have S41_ := Same.trans S36_ S40_
  have H42_ : Holds w38_ (cl b32_ 5 [(Value.int .u8 16)] :: ro R :: sl 5 1 v37_ (List.length ((([8] : List Int) ++ vint ((IntKind.u64.wrap ty).toNat)) ++ [16])) (bytesV ((([8] : List Int) ++ vint ((IntKind.u64.wrap ty).toNat)) ++ [16])) :: sl 5 1 (.slice none 0 0) 0 [] :: cl b7_ 5 [(Value.int .u8 8)] :: cl rb 106 [(Value.pointer (some ⟨tb, 0, none⟩)), (Value.pointer (some ⟨cb, 0, none⟩)), (Value.slice (some ⟨db, 0, none⟩) ds.length dc)] :: cl tb 2 [(Value.int .i64 ty)] :: cl cb 46 [(Value.int .u32 cr)] :: F) := cast2 (P := fun (c__ : List Value) (k__ : Nat) => Holds w38_ (cl b32_ 5 [(Value.int .u8 16)] :: ro R :: sl 5 1 v37_ k__ c__ :: sl 5 1 (.slice none 0 0) 0 [] :: cl b7_ 5 [(Value.int .u8 8)] :: cl rb 106 [(Value.pointer (some ⟨tb, 0, none⟩)), (Value.pointer (some ⟨cb, 0, none⟩)), (Value.slice (some ⟨db, 0, none⟩) ds.length dc)] :: cl tb 2 [(Value.int .i64 ty)] :: cl cb 46 [(Value.int .u32 cr)] :: F)) (by simp [bytesV] : (bytesV (([8] : List Int) ++ vint ((IntKind.u64.wrap ty).toNat))) ++ [(Value.int .u8 16)] = bytesV ((([8] : List Int) ++ vint ((IntKind.u64.wrap ty).toNat)) ++ [16])) (by first | (simp; done) | (simp; omega) | (have := RS.blen trivial; simp; omega) : (List.length (([8] : List Int) ++ vint ((IntKind.u64.wrap ty).toNat))) + 1 = (List.length ((([8] : List Int) ++ vint ((IntKind.u64.wrap ty).toNat)) ++ [16]))) H39_
  refine ⟨⟨Holds.slrd H42_ 3 rfl, Holds.rd H42_ 5 rfl, Holds.rd H42_ 6 rfl, Holds.rd H42_ 7 rfl, (Holds.ro_at H42_ 1 rfl)⟩, ?_⟩
  refine A_ready (i := 10) (rs := []) (by kernel_rfl) ?_
  refine AllR.cons ?_ AllR.nil
  have H44_ : Holds w38_ (ro R :: sl 5 1 v37_ (List.length ((([8] : List Int) ++ vint ((IntKind.u64.wrap ty).toNat)) ++ [16])) (bytesV ((([8] : List Int) ++ vint ((IntKind.u64.wrap ty).toNat)) ++ [16])) :: cl b32_ 5 [(Value.int .u8 16)] :: sl 5 1 (.slice none 0 0) 0 [] :: cl b7_ 5 [(Value.int .u8 8)] :: cl rb 106 [(Value.pointer (some ⟨tb, 0, none⟩)), (Value.pointer (some ⟨cb, 0, none⟩)), (Value.slice (some ⟨db, 0, none⟩) ds.length dc)] :: cl tb 2 [(Value.int .i64 ty)] :: cl cb 46 [(Value.int .u32 cr)] :: F) := (Holds.bring (Holds.bring H42_ 2 rfl) 2 rfl)
  refine A_op (ls' := #[true, true, true, true, true, true, true, true, true, true, true, false]) rfl (by kernel_rfl) (T_call (al := [v37_, (Value.int .u64 (((IntKind.u64.wrap cr).toNat : Nat) : Int))]) (pre := [sl 5 1 v37_ (List.length ((([8] : List Int) ++ vint ((IntKind.u64.wrap ty).toNat)) ++ [16])) (bytesV ((([8] : List Int) ++ vint ((IntKind.u64.wrap ty).toNat)) ++ [16]))]) (F := cl b32_ 5 [(Value.int .u8 16)] :: sl 5 1 (.slice none 0 0) 0 [] :: cl b7_ 5 [(Value.int .u8 8)] :: cl rb 106 [(Value.pointer (some ⟨tb, 0, none⟩)), (Value.pointer (some ⟨cb, 0, none⟩)), (Value.slice (some ⟨db, 0, none⟩) ds.length dc)] :: cl tb 2 [(Value.int .i64 ty)] :: cl cb 46 [(Value.int .u32 cr)] :: F) rfl (lcons rfl (lcons (congrArg (Value.int .u64) ((by first | rfl | omega | (simp; done) | (simp; omega)) : IntKind.u64.wrap cr = (((IntKind.u64.wrap cr).toNat : Nat) : Int))) rfl)) cb155 (wVint R v37_ ((([8] : List Int) ++ vint ((IntKind.u64.wrap ty).toNat)) ++ [16]) ((IntKind.u64.wrap cr).toNat) (by first | assumption | omega) (by unfold vi at hvt; simp; omega)) H44_ ?_)
  rintro v43_ p48_ w45_ ⟨_, rfl, rfl⟩ S47_ H46_
  replace H46_ : Holds w45_ (ro R :: sl 5 1 v43_ (List.length (((([8] : List Int) ++ vint ((IntKind.u64.wrap ty).toNat)) ++ [16]) ++ vint ((IntKind.u64.wrap cr).toNat))) (bytesV (((([8] : List Int) ++ vint ((IntKind.u64.wrap ty).toNat)) ++ [16]) ++ vint ((IntKind.u64.wrap cr).toNat))) :: cl b32_ 5 [(Value.int .u8 16)] :: sl 5 1 (.slice none 0 0) 0 [] :: cl b7_ 5 [(Value.int .u8 8)] :: cl rb 106 [(Value.pointer (some ⟨tb, 0, none⟩)), (Value.pointer (some ⟨cb, 0, none⟩)), (Value.slice (some ⟨db, 0, none⟩) ds.length dc)] :: cl tb 2 [(Value.int .i64 ty)] :: cl cb 46 [(Value.int .u32 cr)] :: F) := H46_
  have S49_ := Same.trans S41_ S47_
  refine ⟨⟨Holds.slrd H46_ 3 rfl, Holds.rd H46_ 5 rfl, Holds.rd H46_ 6 rfl, Holds.rd H46_ 7 rfl, (Holds.ro_at H46_ 0 rfl)⟩, ?_⟩
  have hq50_ := And.intro (Holds.slrd H46_ 3 rfl) (And.intro (Holds.rd H46_ 5 rfl) (And.intro (Holds.rd H46_ 6 rfl) (And.intro (Holds.rd H46_ 7 rfl) ((Holds.ro_at H46_ 0 rfl)))))
  refine A_tk 11 (v := v43_) rfl (by kernel_rfl) (fun w hS => x_assign rfl) hq50_ ?_
  refine A_done (by kernel_rfl) ?_
  refine (X_then (hK28_ _ _ ?_))
  clear hK28_
  refine C_seq (fun K51_ hK51_ => ?_)
  refine C_seq (fun K52_ hK52_ => ?_)
  refine C_reg ?_
  refine S_list (T_val (v := (Value.pointer (some ⟨rb, 0, none⟩))) (x_move rfl) ?_)
  refine S_list (T_val (v := (Value.pointer (some ⟨rb, 0, none⟩))) (by kernel_rfl) ?_)
  refine S_list (T_val (v := (Value.pointer (some ⟨rb, 2, none⟩))) (by kernel_rfl) ?_)
  refine S_list (T_val (v := (Value.slice (some ⟨db, 0, none⟩) ds.length dc)) (x_load1 rfl Try.underlying43 rfl ((Holds.rd H46_ 5 rfl) 2 (Value.slice (some ⟨db, 0, none⟩) ds.length dc) rfl)) ?_)
  refine S_list (T_val (v := (Value.bool true)) (by kernel_rfl) ?_)
  refine wpList_nil ?_
  refine (X_then (hK52_ _ _ ?_))
  clear hK52_
  refine C_condT rfl ?_
  refine C_reg ?_
  refine S_list (T_val (v := v43_) (x_move rfl) ?_)
  refine S_list (T_val (v := (Value.pointer (some ⟨rb, 0, none⟩))) (x_move rfl) ?_)
  refine S_list (T_val (v := (Value.pointer (some ⟨rb, 0, none⟩))) (by kernel_rfl) ?_)
  refine S_list (T_val (v := (Value.pointer (some ⟨rb, 2, none⟩))) (by kernel_rfl) ?_)
  refine S_list (T_val (v := (Value.slice (some ⟨db, 0, none⟩) ds.length dc)) (x_load1 rfl Try.underlying43 rfl ((Holds.rd H46_ 5 rfl) 2 (Value.slice (some ⟨db, 0, none⟩) ds.length dc) rfl)) ?_)
  refine S_list (T_call (al := [v43_, (Value.int .i64 3), ((Value.slice (some ⟨db, 0, none⟩) ds.length dc))]) (pre := [sl 5 1 v43_ (List.length (((([8] : List Int) ++ vint ((IntKind.u64.wrap ty).toNat)) ++ [16]) ++ vint ((IntKind.u64.wrap cr).toNat))) (bytesV (((([8] : List Int) ++ vint ((IntKind.u64.wrap ty).toNat)) ++ [16]) ++ vint ((IntKind.u64.wrap cr).toNat)))]) (F := cl b32_ 5 [(Value.int .u8 16)] :: sl 5 1 (.slice none 0 0) 0 [] :: cl b7_ 5 [(Value.int .u8 8)] :: cl rb 106 [(Value.pointer (some ⟨tb, 0, none⟩)), (Value.pointer (some ⟨cb, 0, none⟩)), (Value.slice (some ⟨db, 0, none⟩) ds.length dc)] :: cl tb 2 [(Value.int .i64 ty)] :: cl cb 46 [(Value.int .u32 cr)] :: F) rfl (lcons rfl (lcons rfl (lcons (rfl : (Value.slice (some ⟨db, 0, none⟩) ds.length dc) = ((Value.slice (some ⟨db, 0, none⟩) ds.length dc))) rfl))) cb156 (wBytes R v43_ (Value.slice (some ⟨db, 0, none⟩) ds.length dc) (((([8] : List Int) ++ vint ((IntKind.u64.wrap ty).toNat)) ++ [16]) ++ vint ((IntKind.u64.wrap cr).toNat)) ds hD (by unfold vi at hvt hvc; simp; omega) (by first | assumption | omega)) H46_ ?_)
  rintro v53_ p57_ w54_ ⟨_, rfl, rfl⟩ S56_ H55_
  replace H55_ : Holds w54_ (ro R :: sl 5 1 v53_ (List.length ((((([8] : List Int) ++ vint ((IntKind.u64.wrap ty).toNat)) ++ [16]) ++ vint ((IntKind.u64.wrap cr).toNat)) ++ ([26] ++ vi ds.length ++ ds))) (bytesV ((((([8] : List Int) ++ vint ((IntKind.u64.wrap ty).toNat)) ++ [16]) ++ vint ((IntKind.u64.wrap cr).toNat)) ++ ([26] ++ vi ds.length ++ ds))) :: cl b32_ 5 [(Value.int .u8 16)] :: sl 5 1 (.slice none 0 0) 0 [] :: cl b7_ 5 [(Value.int .u8 8)] :: cl rb 106 [(Value.pointer (some ⟨tb, 0, none⟩)), (Value.pointer (some ⟨cb, 0, none⟩)), (Value.slice (some ⟨db, 0, none⟩) ds.length dc)] :: cl tb 2 [(Value.int .i64 ty)] :: cl cb 46 [(Value.int .u32 cr)] :: F) := H55_
  have S58_ := Same.trans S49_ S56_
  refine S_list (T_val (v := v53_) (x_assign rfl) ?_)
  refine wpList_nil ?_
  refine (X_then (hK51_ _ _ ?_))
  clear hK51_
  refine C_seq (fun K59_ hK59_ => ?_)
  refine C_reg ?_
  refine S_list (T_val (v := v53_) (x_move rfl) ?_)
  refine S_list (T_val (v := v53_) (x_assign rfl) ?_)
  refine wpList_nil ?_
  refine (X_then (hK59_ _ _ ?_))
  clear hK59_
  refine C_ret ?_
  refine R_any (v := v53_) (run_results1 rfl rfl) ?_
  have H60_ : Holds w54_ (ro R :: sl 5 1 v53_ (List.length (wbody ty cr true ds)) (bytesV (wbody ty cr true ds)) :: cl b32_ 5 [(Value.int .u8 16)] :: sl 5 1 (.slice none 0 0) 0 [] :: cl b7_ 5 [(Value.int .u8 8)] :: cl rb 106 [(Value.pointer (some ⟨tb, 0, none⟩)), (Value.pointer (some ⟨cb, 0, none⟩)), (Value.slice (some ⟨db, 0, none⟩) ds.length dc)] :: cl tb 2 [(Value.int .i64 ty)] :: cl cb 46 [(Value.int .u32 cr)] :: F) := cast2 (P := fun (c__ : List Value) (k__ : Nat) => Holds w54_ (ro R :: sl 5 1 v53_ k__ c__ :: cl b32_ 5 [(Value.int .u8 16)] :: sl 5 1 (.slice none 0 0) 0 [] :: cl b7_ 5 [(Value.int .u8 8)] :: cl rb 106 [(Value.pointer (some ⟨tb, 0, none⟩)), (Value.pointer (some ⟨cb, 0, none⟩)), (Value.slice (some ⟨db, 0, none⟩) ds.length dc)] :: cl tb 2 [(Value.int .i64 ty)] :: cl cb 46 [(Value.int .u32 cr)] :: F)) ((by simp [wbody, vi]) : bytesV ((((([8] : List Int) ++ vint ((IntKind.u64.wrap ty).toNat)) ++ [16]) ++ vint ((IntKind.u64.wrap cr).toNat)) ++ ([26] ++ vi ds.length ++ ds)) = bytesV (wbody ty cr true ds)) ((by simp [wbody, vi]) : (List.length ((((([8] : List Int) ++ vint ((IntKind.u64.wrap ty).toNat)) ++ [16]) ++ vint ((IntKind.u64.wrap cr).toNat)) ++ ([26] ++ vi ds.length ++ ds))) = (List.length (wbody ty cr true ds))) H55_
  have H61_ : Holds w54_ (ro R :: cl rb 106 [(Value.pointer (some ⟨tb, 0, none⟩)), (Value.pointer (some ⟨cb, 0, none⟩)), (Value.slice (some ⟨db, 0, none⟩) ds.length dc)] :: cl tb 2 [(Value.int .i64 ty)] :: cl cb 46 [(Value.int .u32 cr)] :: sl 5 1 v53_ (List.length (wbody ty cr true ds)) (bytesV (wbody ty cr true ds)) :: F) := (Holds.erase (Holds.erase (Holds.erase (Holds.bring (Holds.bring (Holds.bring (Holds.bring (Holds.bring H60_ 1 rfl) 7 rfl) 7 rfl) 7 rfl) 4 rfl) 5) 5) 5)
  exact ⟨_, [cl rb 106 [(Value.pointer (some ⟨tb, 0, none⟩)), (Value.pointer (some ⟨cb, 0, none⟩)), (Value.slice (some ⟨db, 0, none⟩) ds.length dc)], cl tb 2 [(Value.int .i64 ty)], cl cb 46 [(Value.int .u32 cr)], sl 5 1 v53_ (List.length (wbody ty cr true ds)) (bytesV (wbody ty cr true ds))], rfl, ⟨v53_, rfl, rfl⟩, S58_, H61_⟩

set_option maxHeartbeats 400000 in
theorem wCrc (R : HP) (cb : Nat) (n : Int) (p : Value) (ds : List Int) (hP : RS R 1 p ds.length (bytesV ds)) (q1 : ds.length ≤ 1000000000) :
    Tri Try.prog 88 #[(Value.pointer (some ⟨cb, 0, none⟩)), p] R [cl cb 244 [(Value.int .u32 n)]] (fun v__ post__ => v__ = (Value.tuple #[(Value.int .i64 (ds.length : Int)), (Value.nilIface)]) ∧ post__ = [cl cb 244 [(Value.int .u32 (crc n ds))]]) := by
  refine Tri.into (n := 46) (al := [(Value.pointer (some ⟨cb, 0, none⟩)), p]) Try.func88 rfl Try.ntmps88 rfl rfl fun w F H => ?_
  replace H : Holds w (ro R :: cl cb 244 [(Value.int .u32 n)] :: F) := H
  refine C_seq (fun K1_ hK1_ => ?_)
  refine C_reg ?_
  refine S_list (T_val (v := (Value.int .i64 0)) (x_assign rfl) ?_)
  refine S_list (T_val (v := (Value.nilIface)) (x_assign rfl) ?_)
  refine wpList_nil ?_
  refine (X_then (hK1_ _ _ ?_))
  clear hK1_
  refine C_seq (fun K2_ hK2_ => ?_)
  refine C_reg ?_
  refine S_list (T_val (v := (Value.pointer (some ⟨cb, 0, none⟩))) (x_move rfl) ?_)
  refine S_list (T_val (v := (Value.pointer (some ⟨cb, 0, none⟩))) (by kernel_rfl) ?_)
  refine S_list (T_val (v := (Value.pointer (some ⟨cb, 0, none⟩))) (by kernel_rfl) ?_)
  refine S_list (T_val (v := (Value.int .u32 n)) (x_load1 rfl Try.underlying46 rfl ((Holds.rd H 1 rfl) 0 (Value.int .u32 n) rfl)) ?_)
  refine S_list (T_val (v := (Value.int .u32 (ixor .u32 4294967295 n))) (x_cplU rfl rfl rfl) ?_)
  refine S_list (T_val (v := (Value.int .u32 (ixor .u32 4294967295 n))) (x_assign rfl) ?_)
  refine wpList_nil ?_
  refine (X_then (hK2_ _ _ ?_))
  clear hK2_
  refine C_seq (fun K3_ hK3_ => ?_)
  refine C_seq (fun K4_ hK4_ => ?_)
  refine C_reg ?_
  refine S_list (T_val (v := (Value.int .i64 0)) (x_assign rfl) ?_)
  refine wpList_nil ?_
  refine (X_then (hK4_ _ _ ?_))
  clear hK4_
  refine C_block ?_
  refine C_loop (γ := Nat) (fun k a__ w1__ => ∃ h : Env, a__ = mkA 46 (upd (upd (upd (upd (upd (upd h 0 (Value.pointer (some ⟨cb, 0, none⟩))) 1 p) 4 (Value.int .i64 0)) 5 (Value.nilIface)) 6 (Value.int .u32 (cbytes (ixor .u32 4294967295 n) (List.take k ds)))) 7 (Value.int .i64 (k : Int))) [] ∧ Holds w1__ (ro R :: cl cb 244 [(Value.int .u32 n)] :: F) ∧ Same w w1__ ∧ (k ≤ ds.length)) (fun k => ds.length - k) (0) ⟨_, congrArg (fun e => mkA 46 e []) (ch (ch (ch (ch (ch (ch rfl rfl) rfl) rfl) rfl) (congrArg (Value.int .u32) ((by first | rfl | omega | (simp; done) | (simp; omega)) : ixor .u32 4294967295 n = cbytes (ixor .u32 4294967295 n) (List.take 0 ds)))) (congrArg (Value.int .i64) ((by first | rfl | omega | (simp; done) | (simp; omega)) : 0 = (0 : Int)))), H, (Same.refl w), (by first | assumption | omega | exact rfl)⟩ ?_
  rintro k _ w5_ ⟨h, rfl, H6_, S7_, hk⟩
  refine C_seq (fun K8_ hK8_ => ?_)
  refine C_seq (fun K9_ hK9_ => ?_)
  refine C_reg ?_
  refine S_list (T_val (v := (Value.int .i64 (k : Int))) (x_move rfl) ?_)
  refine S_list (T_val (v := p) (x_move rfl) ?_)
  refine S_list (T_val (v := (Value.int .i64 (ds.length : Int))) (x_lenRS rfl hP Try.underlying43) ?_)
  refine S_list (T_val (v := (Value.bool (decide ((k : Int) < (ds.length : Int))))) (x_bin rfl rfl rfl) ?_)
  refine wpList_nil ?_
  refine (X_then (hK9_ _ _ ?_))
  clear hK9_
  refine C_cond (b := decide ((k : Int) < (ds.length : Int))) rfl (fun c10_t => ?_) (fun c10_f => ?_)
  · have c10_tp : (k : Int) < (ds.length : Int) := of_decide_eq_true c10_t
    refine C_skip (X_then (hK8_ _ _ ?_))
    clear hK8_
    refine C_seq (fun K11_ hK11_ => ?_)
    refine C_block ?_
    refine C_seq (fun K12_ hK12_ => ?_)
    refine C_reg ?_
    refine S_list (T_val (v := (Value.int .u32 (cbytes (ixor .u32 4294967295 n) (List.take k ds)))) (x_move rfl) ?_)
    refine S_list (T_val (v := p) (x_move rfl) ?_)
    refine S_list (T_val (v := (Value.int .i64 (k : Int))) (x_move rfl) ?_)
    obtain ⟨x13_, hx14_, hm15_⟩ := elem_at ds k (by omega)
    refine S_list (T_val (v := (Value.pointer (some ⟨(sb p), so p + k, none⟩))) (x_idxRS (v := p) rfl hP rfl Try.underlying43 z5 (by omega) (by omega) (by omega : _ = k) (by rw [Nat.mul_one])) ?_)
    refine S_list (T_val (v := (Value.int .u8 x13_)) (x_load1 rfl Try.underlying5 rfl (RC.cell (RS.rc hP) (Holds.ro_at H6_ 0 rfl) (j := k) (u := (Value.int .u8 x13_)) ((map_at hx14_)))) ?_)
    refine S_list (T_val (v := (Value.int .u32 (IntKind.u32.wrap x13_))) (x_convI rfl Try.underlying5 Try.underlying46 rfl) ?_)
    refine S_list (T_val (v := (Value.int .u32 (ixor .u32 (cbytes (ixor .u32 4294967295 n) (List.take k ds)) (IntKind.u32.wrap x13_)))) (x_bin rfl rfl rfl) ?_)
    refine S_list (T_val (v := (Value.int .u32 (ixor .u32 (cbytes (ixor .u32 4294967295 n) (List.take k ds)) (IntKind.u32.wrap x13_)))) (x_assign rfl) ?_)
    refine wpList_nil ?_
    refine (X_then (hK12_ _ _ ?_))
    clear hK12_
    refine C_seq (fun K16_ hK16_ => ?_)
    refine C_reg ?_
    refine S_list (T_val (v := (Value.int .i64 0)) (x_assign rfl) ?_)
    refine wpList_nil ?_
    refine (X_then (hK16_ _ _ ?_))
    clear hK16_
    refine C_block ?_
    refine C_loop (γ := Nat) (fun j a__ w1__ => ∃ h : Env, a__ = mkA 46 (upd (upd (upd (upd (upd (upd (upd h 0 (Value.pointer (some ⟨cb, 0, none⟩))) 1 p) 4 (Value.int .i64 0)) 5 (Value.nilIface)) 6 (Value.int .u32 (cN j (ixor .u32 (cbytes (ixor .u32 4294967295 n) (List.take k ds)) (IntKind.u32.wrap x13_))))) 7 (Value.int .i64 (k : Int))) 8 (Value.int .i64 (j : Int))) [] ∧ Holds w1__ (ro R :: cl cb 244 [(Value.int .u32 n)] :: F) ∧ Same w w1__ ∧ (j ≤ 8)) (fun j => 8 - j) (0) ⟨_, congrArg (fun e => mkA 46 e []) (ch (ch (ch (ch (ch (ch (ch rfl rfl) rfl) rfl) rfl) (congrArg (Value.int .u32) ((by first | rfl | omega | (simp; done) | (simp; omega)) : ixor .u32 (cbytes (ixor .u32 4294967295 n) (List.take k ds)) (IntKind.u32.wrap x13_) = cN 0 (ixor .u32 (cbytes (ixor .u32 4294967295 n) (List.take k ds)) (IntKind.u32.wrap x13_))))) rfl) (congrArg (Value.int .i64) ((by first | rfl | omega | (simp; done) | (simp; omega)) : 0 = (0 : Int)))), H6_, S7_, (by first | assumption | omega | exact rfl)⟩ ?_
    rintro j _ w17_ ⟨h, rfl, H18_, S19_, hj⟩
    refine C_seq (fun K20_ hK20_ => ?_)
    refine C_seq (fun K21_ hK21_ => ?_)
    refine C_reg ?_
    refine S_list (T_val (v := (Value.int .i64 (j : Int))) (x_move rfl) ?_)
    refine S_list (T_val (v := (Value.bool (decide ((j : Int) < 8)))) (x_bin rfl rfl rfl) ?_)
    refine wpList_nil ?_
    refine (X_then (hK21_ _ _ ?_))
    clear hK21_
    refine C_cond (b := decide ((j : Int) < 8)) rfl (fun c22_t => ?_) (fun c22_f => ?_)
    · have c22_tp : (j : Int) < 8 := of_decide_eq_true c22_t
      refine C_skip (X_then (hK20_ _ _ ?_))
      clear hK20_
      refine C_seq (fun K23_ hK23_ => ?_)
      refine C_block ?_
      refine C_seq (fun K24_ hK24_ => ?_)
      refine C_reg ?_
      refine S_list (T_val (v := (Value.int .u32 (cN j (ixor .u32 (cbytes (ixor .u32 4294967295 n) (List.take k ds)) (IntKind.u32.wrap x13_))))) (x_move rfl) ?_)
      refine S_list (T_val (v := (Value.int .u32 (iand .u32 (cN j (ixor .u32 (cbytes (ixor .u32 4294967295 n) (List.take k ds)) (IntKind.u32.wrap x13_))) 1))) (x_bin rfl rfl rfl) ?_)
      refine S_list (T_val (v := (Value.bool (decide (iand .u32 (cN j (ixor .u32 (cbytes (ixor .u32 4294967295 n) (List.take k ds)) (IntKind.u32.wrap x13_))) 1 = 1)))) (x_bin rfl rfl rfl) ?_)
      refine wpList_nil ?_
      refine (X_then (hK24_ _ _ ?_))
      clear hK24_
      refine C_cond (b := decide (iand .u32 (cN j (ixor .u32 (cbytes (ixor .u32 4294967295 n) (List.take k ds)) (IntKind.u32.wrap x13_))) 1 = 1)) rfl (fun c25_t => ?_) (fun c25_f => ?_)
      · have c25_tp : iand .u32 (cN j (ixor .u32 (cbytes (ixor .u32 4294967295 n) (List.take k ds)) (IntKind.u32.wrap x13_))) 1 = 1 := of_decide_eq_true c25_t
        refine C_reg ?_
        refine S_list (T_val (v := (Value.int .u32 (cN j (ixor .u32 (cbytes (ixor .u32 4294967295 n) (List.take k ds)) (IntKind.u32.wrap x13_))))) (x_move rfl) ?_)
        refine S_list (T_val (v := (Value.int .u32 ((cN j (ixor .u32 (cbytes (ixor .u32 4294967295 n) (List.take k ds)) (IntKind.u32.wrap x13_))) / 2))) (x_shr rfl rfl (by omega) (shrN (by decide) (by decide))) ?_)
        refine S_list (T_val (v := (Value.int .u32 (ixor .u32 ((cN j (ixor .u32 (cbytes (ixor .u32 4294967295 n) (List.take k ds)) (IntKind.u32.wrap x13_))) / 2) 2197175160))) (x_bin rfl rfl rfl) ?_)
        refine S_list (T_val (v := (Value.int .u32 (ixor .u32 ((cN j (ixor .u32 (cbytes (ixor .u32 4294967295 n) (List.take k ds)) (IntKind.u32.wrap x13_))) / 2) 2197175160))) (x_assign rfl) ?_)
        refine wpList_nil ?_
        refine (X_blkN (X_then (hK23_ _ _ ?_)))
        clear hK23_
        refine C_reg ?_
        refine S_list (T_val (v := (Value.int .i64 (j : Int))) (x_move rfl) ?_)
        refine S_list (T_val (v := (Value.int .i64 ((j : Int) + 1))) (x_bin rfl rfl (ib_add (IntWalk.i64_in _ (by omega)))) ?_)
        refine S_list (T_val (v := (Value.int .i64 ((j : Int) + 1))) (x_assign rfl) ?_)
        refine wpList_nil ?_
        refine (X_then ?_)
        exact ⟨(j + 1), ⟨_, congrArg (fun e => mkA 46 e []) (ch (ch (ch (ch (ch (ch (ch rfl rfl) rfl) rfl) rfl) (congrArg (Value.int .u32) ((by simp only [cN, cstep]; rw [if_pos c25_tp]) : ixor .u32 ((cN j (ixor .u32 (cbytes (ixor .u32 4294967295 n) (List.take k ds)) (IntKind.u32.wrap x13_))) / 2) 2197175160 = cN (j + 1) (ixor .u32 (cbytes (ixor .u32 4294967295 n) (List.take k ds)) (IntKind.u32.wrap x13_))))) rfl) (congrArg (Value.int .i64) ((by first | rfl | omega | (simp; done) | (simp; omega)) : (j : Int) + 1 = ((j + 1 : Nat) : Int)))), H18_, S19_, (by first | assumption | omega | exact rfl)⟩, by first | omega | (dsimp only; omega) | (simp; omega)⟩
      · have c25_fp : ¬ (iand .u32 (cN j (ixor .u32 (cbytes (ixor .u32 4294967295 n) (List.take k ds)) (IntKind.u32.wrap x13_))) 1 = 1) := of_decide_eq_false c25_f
        refine C_reg ?_
        refine S_list (T_val (v := (Value.int .u32 (cN j (ixor .u32 (cbytes (ixor .u32 4294967295 n) (List.take k ds)) (IntKind.u32.wrap x13_))))) (x_move rfl) ?_)
        refine S_list (T_val (v := (Value.int .u32 ((cN j (ixor .u32 (cbytes (ixor .u32 4294967295 n) (List.take k ds)) (IntKind.u32.wrap x13_))) / 2))) (x_shr rfl rfl (by omega) (shrN (by decide) (by decide))) ?_)
        refine S_list (T_val (v := (Value.int .u32 ((cN j (ixor .u32 (cbytes (ixor .u32 4294967295 n) (List.take k ds)) (IntKind.u32.wrap x13_))) / 2))) (x_assign rfl) ?_)
        refine wpList_nil ?_
        refine (X_blkN (X_then (hK23_ _ _ ?_)))
        clear hK23_
        refine C_reg ?_
        refine S_list (T_val (v := (Value.int .i64 (j : Int))) (x_move rfl) ?_)
        refine S_list (T_val (v := (Value.int .i64 ((j : Int) + 1))) (x_bin rfl rfl (ib_add (IntWalk.i64_in _ (by omega)))) ?_)
        refine S_list (T_val (v := (Value.int .i64 ((j : Int) + 1))) (x_assign rfl) ?_)
        refine wpList_nil ?_
        refine (X_then ?_)
        exact ⟨(j + 1), ⟨_, congrArg (fun e => mkA 46 e []) (ch (ch (ch (ch (ch (ch (ch rfl rfl) rfl) rfl) rfl) (congrArg (Value.int .u32) ((by simp only [cN, cstep]; rw [if_neg c25_fp]) : (cN j (ixor .u32 (cbytes (ixor .u32 4294967295 n) (List.take k ds)) (IntKind.u32.wrap x13_))) / 2 = cN (j + 1) (ixor .u32 (cbytes (ixor .u32 4294967295 n) (List.take k ds)) (IntKind.u32.wrap x13_))))) rfl) (congrArg (Value.int .i64) ((by first | rfl | omega | (simp; done) | (simp; omega)) : (j : Int) + 1 = ((j + 1 : Nat) : Int)))), H18_, S19_, (by first | assumption | omega | exact rfl)⟩, by first | omega | (dsimp only; omega) | (simp; omega)⟩
    · have c22_fp : ¬ ((j : Int) < 8) := of_decide_eq_false c22_f
      refine C_exit (X_thenX (X_thenX (X_blkHit ?_)))
      refine (X_blkN (X_then (hK11_ _ _ ?_)))
      clear hK11_
      refine C_reg ?_
      refine S_list (T_val (v := (Value.int .i64 (k : Int))) (x_move rfl) ?_)
      refine S_list (T_val (v := (Value.int .i64 ((k : Int) + 1))) (x_bin rfl rfl (ib_add (IntWalk.i64_in _ (by omega)))) ?_)
      refine S_list (T_val (v := (Value.int .i64 ((k : Int) + 1))) (x_assign rfl) ?_)
      refine wpList_nil ?_
      refine (X_then ?_)
      exact ⟨(k + 1), ⟨_, congrArg (fun e => mkA 46 e []) (ch (ch (ch (ch (ch (ch rfl rfl) rfl) rfl) rfl) (congrArg (Value.int .u32) ((by rw [cbytes_take hx14_]; obtain rfl : j = 8 := (by omega); rfl) : cN j (ixor .u32 (cbytes (ixor .u32 4294967295 n) (List.take k ds)) (IntKind.u32.wrap x13_)) = cbytes (ixor .u32 4294967295 n) (List.take (k + 1) ds)))) (congrArg (Value.int .i64) ((by first | rfl | omega | (simp; done) | (simp; omega)) : (k : Int) + 1 = ((k + 1 : Nat) : Int)))), H18_, S19_, (by first | assumption | omega | exact rfl)⟩, by first | omega | (dsimp only; omega) | (simp; omega)⟩
  · have c10_fp : ¬ ((k : Int) < (ds.length : Int)) := of_decide_eq_false c10_f
    refine C_exit (X_thenX (X_thenX (X_blkHit ?_)))
    refine (X_then (hK3_ _ _ ?_))
    clear hK3_
    refine C_seq (fun K26_ hK26_ => ?_)
    refine C_reg ?_
    refine S_list (T_val (v := (Value.pointer (some ⟨cb, 0, none⟩))) (x_move rfl) ?_)
    refine S_list (T_val (v := (Value.int .u32 (cbytes (ixor .u32 4294967295 n) (List.take k ds)))) (x_move rfl) ?_)
    refine S_list (T_val (v := (Value.int .u32 (ixor .u32 4294967295 (cbytes (ixor .u32 4294967295 n) (List.take k ds))))) (x_cplU rfl rfl rfl) ?_)
    refine S_list (T_val (v := (Value.pointer (some ⟨cb, 0, none⟩))) (by kernel_rfl) ?_)
    refine S_list (T_val (v := (Value.pointer (some ⟨cb, 0, none⟩))) (by kernel_rfl) ?_)
    refine S_list0 (T_store1 (v := (Value.int .u32 (ixor .u32 4294967295 (cbytes (ixor .u32 4294967295 n) (List.take k ds))))) rfl rfl z46 rfl H6_ 1 rfl (Nat.le_of_ble_eq_true (by rfl)) ?_)
    intro w27_ S29_ H28_
    replace H28_ : Holds w27_ (ro R :: cl cb 244 [(Value.int .u32 (ixor .u32 4294967295 (cbytes (ixor .u32 4294967295 n) (List.take k ds))))] :: F) := H28_
    have S30_ := Same.trans S7_ S29_
    refine wpList_nil ?_
    refine (X_then (hK26_ _ _ ?_))
    clear hK26_
    refine C_seq (fun K31_ hK31_ => ?_)
    refine C_reg ?_
    refine S_list (T_val (v := p) (x_move rfl) ?_)
    refine S_list (T_val (v := (Value.int .i64 (ds.length : Int))) (x_lenRS rfl hP Try.underlying43) ?_)
    refine S_list (T_val (v := (Value.int .i64 (ds.length : Int))) (x_assign rfl) ?_)
    refine S_list (T_val (v := (Value.nilIface)) (x_assign rfl) ?_)
    refine wpList_nil ?_
    refine (X_then (hK31_ _ _ ?_))
    clear hK31_
    refine C_ret ?_
    refine R_any (v := (Value.tuple #[(Value.int .i64 (ds.length : Int)), (Value.nilIface)])) (run_results2 rfl rfl rfl) ?_
    have H32_ : Holds w27_ (ro R :: cl cb 244 [(Value.int .u32 (crc n ds))] :: F) := cast1 (P := fun (c__ : List Value) => Holds w27_ (ro R :: cl cb 244 c__ :: F)) ((lcons (congrArg (Value.int .u32) ((by rw [show k = ds.length by omega, List.take_length]; rfl) : ixor .u32 4294967295 (cbytes (ixor .u32 4294967295 n) (List.take k ds)) = crc n ds)) rfl) : [(Value.int .u32 (ixor .u32 4294967295 (cbytes (ixor .u32 4294967295 n) (List.take k ds))))] = [(Value.int .u32 (crc n ds))]) H28_
    exact ⟨_, [cl cb 244 [(Value.int .u32 (crc n ds))]], rfl, ⟨rfl, rfl⟩, S30_, H32_⟩

set_option maxHeartbeats 400000 in
theorem sSum (R : HP) (n : Int) (u : ByteArray) (q0 : u.size ≤ 1000000000) :
    Tri Try.prog 48 #[(Value.int .u32 n), (Value.string u)] R [] (fun v__ post__ => v__ = (Value.int .u32 (crc n (ints u))) ∧ post__ = []) := by
  have hil := ints_length u
  refine Tri.into (n := 35) (al := [(Value.int .u32 n), (Value.string u)]) Try.func48 rfl Try.ntmps48 rfl rfl fun w F H => ?_
  replace H : Holds w (ro R :: F) := H
  refine C_seq (fun K1_ hK1_ => ?_)
  refine C_reg ?_
  refine S_list (T_val (v := (Value.int .u32 0)) (x_assign rfl) ?_)
  refine wpList_nil ?_
  refine (X_then (hK1_ _ _ ?_))
  clear hK1_
  refine C_seq (fun K2_ hK2_ => ?_)
  refine C_reg ?_
  refine S_list (T_val (v := (Value.int .u32 n)) (x_move rfl) ?_)
  refine S_list (T_val (v := (Value.int .u32 (ixor .u32 4294967295 n))) (x_cplU rfl rfl rfl) ?_)
  refine S_list (T_val (v := (Value.int .u32 (ixor .u32 4294967295 n))) (x_assign rfl) ?_)
  refine wpList_nil ?_
  refine (X_then (hK2_ _ _ ?_))
  clear hK2_
  refine C_seq (fun K3_ hK3_ => ?_)
  refine C_seq (fun K4_ hK4_ => ?_)
  refine C_reg ?_
  refine S_list (T_val (v := (Value.string u)) (x_move rfl) ?_)
  refine S_list (T_val (v := (Value.int .i64 (u.size : Int))) (x_lenT rfl Try.underlying9) ?_)
  refine S_list (T_val (v := (Value.int .i64 0)) (x_move rfl) ?_)
  refine wpList_nil ?_
  refine (X_then (hK4_ _ _ ?_))
  clear hK4_
  refine C_block ?_
  refine C_loop (γ := Nat) (fun k a__ w1__ => ∃ h : Env, a__ = mkA 35 (upd (upd (upd (upd (upd h 1 (Value.string u)) 4 (Value.int .u32 0)) 5 (Value.int .u32 (cbytes (ixor .u32 4294967295 n) (List.take k (ints u))))) 11 (Value.int .i64 (u.size : Int))) 12 (Value.int .i64 (k : Int))) [] ∧ Holds w1__ (ro R :: F) ∧ Same w w1__ ∧ (k ≤ (ints u).length)) (fun k => (ints u).length - k) (0) ⟨_, congrArg (fun e => mkA 35 e []) (ch (ch (ch (ch (ch rfl rfl) rfl) (congrArg (Value.int .u32) ((by first | rfl | omega | (simp; done) | (simp; omega)) : ixor .u32 4294967295 n = cbytes (ixor .u32 4294967295 n) (List.take 0 (ints u))))) rfl) (congrArg (Value.int .i64) ((by first | rfl | omega | (simp; done) | (simp; omega)) : 0 = (0 : Int)))), H, (Same.refl w), (by first | assumption | omega | exact rfl)⟩ ?_
  rintro k _ w5_ ⟨h, rfl, H6_, S7_, hk⟩
  refine C_seq (fun K8_ hK8_ => ?_)
  refine C_reg ?_
  refine S_list (T_val (v := (Value.bool (decide ((k : Int) < (u.size : Int))))) (x_bin rfl rfl rfl) ?_)
  refine wpList_nil ?_
  refine (X_then (hK8_ _ _ ?_))
  clear hK8_
  refine C_seq (fun K9_ hK9_ => ?_)
  refine C_cond (b := decide ((k : Int) < (u.size : Int))) rfl (fun c10_t => ?_) (fun c10_f => ?_)
  · have c10_tp : (k : Int) < (u.size : Int) := of_decide_eq_true c10_t
    refine C_skip (X_then (hK9_ _ _ ?_))
    clear hK9_
    refine C_seq (fun K11_ hK11_ => ?_)
    refine C_block ?_
    refine C_seq (fun K12_ hK12_ => ?_)
    refine C_reg ?_
    refine S_list (T_val (v := (Value.int .i64 (k : Int))) (x_move rfl) ?_)
    refine S_list (T_val (v := (Value.int .i64 (k : Int))) (x_assign rfl) ?_)
    refine wpList_nil ?_
    refine (X_then (hK12_ _ _ ?_))
    clear hK12_
    refine C_seq (fun K13_ hK13_ => ?_)
    refine C_reg ?_
    refine S_list (T_val (v := (Value.int .u32 (cbytes (ixor .u32 4294967295 n) (List.take k (ints u))))) (x_move rfl) ?_)
    refine S_list (T_val (v := (Value.string u)) (x_move rfl) ?_)
    refine S_list (T_val (v := (Value.int .i64 (k : Int))) (x_move rfl) ?_)
    obtain ⟨x14_, hx15_, hm16_⟩ := elem_at (ints u) k (by omega)
    refine S_list (T_val (v := (Value.int .u8 x14_)) (x_strIdx (i := k) rfl rfl Try.underlying9 (by omega) (by omega) hx15_) ?_)
    refine S_list (T_val (v := (Value.int .u32 (IntKind.u32.wrap x14_))) (x_convI rfl Try.underlying5 Try.underlying46 rfl) ?_)
    refine S_list (T_val (v := (Value.int .u32 (ixor .u32 (cbytes (ixor .u32 4294967295 n) (List.take k (ints u))) (IntKind.u32.wrap x14_)))) (x_bin rfl rfl rfl) ?_)
    refine S_list (T_val (v := (Value.int .u32 (ixor .u32 (cbytes (ixor .u32 4294967295 n) (List.take k (ints u))) (IntKind.u32.wrap x14_)))) (x_assign rfl) ?_)
    refine wpList_nil ?_
    refine (X_then (hK13_ _ _ ?_))
    clear hK13_
    refine C_seq (fun K17_ hK17_ => ?_)
    refine C_reg ?_
    refine S_list (T_val (v := (Value.int .i64 0)) (x_move rfl) ?_)
    refine wpList_nil ?_
    refine (X_then (hK17_ _ _ ?_))
    clear hK17_
    refine C_block ?_
    refine C_loop (γ := Nat) (fun j a__ w1__ => ∃ h : Env, a__ = mkA 35 (upd (upd (upd (upd (upd (upd h 1 (Value.string u)) 4 (Value.int .u32 0)) 5 (Value.int .u32 (cN j (ixor .u32 (cbytes (ixor .u32 4294967295 n) (List.take k (ints u))) (IntKind.u32.wrap x14_))))) 11 (Value.int .i64 (u.size : Int))) 12 (Value.int .i64 (k : Int))) 21 (Value.int .i64 (j : Int))) [] ∧ Holds w1__ (ro R :: F) ∧ Same w w1__ ∧ (j ≤ 8)) (fun j => 8 - j) (0) ⟨_, congrArg (fun e => mkA 35 e []) (ch (ch (ch (ch (ch (ch rfl rfl) rfl) (congrArg (Value.int .u32) ((by first | rfl | omega | (simp; done) | (simp; omega)) : ixor .u32 (cbytes (ixor .u32 4294967295 n) (List.take k (ints u))) (IntKind.u32.wrap x14_) = cN 0 (ixor .u32 (cbytes (ixor .u32 4294967295 n) (List.take k (ints u))) (IntKind.u32.wrap x14_))))) rfl) rfl) (congrArg (Value.int .i64) ((by first | rfl | omega | (simp; done) | (simp; omega)) : 0 = (0 : Int)))), H6_, S7_, (by first | assumption | omega | exact rfl)⟩ ?_
    rintro j _ w18_ ⟨h, rfl, H19_, S20_, hj⟩
    refine C_seq (fun K21_ hK21_ => ?_)
    refine C_reg ?_
    refine S_list (T_val (v := (Value.bool (decide ((j : Int) < 8)))) (x_bin rfl rfl rfl) ?_)
    refine wpList_nil ?_
    refine (X_then (hK21_ _ _ ?_))
    clear hK21_
    refine C_seq (fun K22_ hK22_ => ?_)
    refine C_cond (b := decide ((j : Int) < 8)) rfl (fun c23_t => ?_) (fun c23_f => ?_)
    · have c23_tp : (j : Int) < 8 := of_decide_eq_true c23_t
      refine C_skip (X_then (hK22_ _ _ ?_))
      clear hK22_
      refine C_seq (fun K24_ hK24_ => ?_)
      refine C_block ?_
      refine C_seq (fun K25_ hK25_ => ?_)
      refine C_reg ?_
      refine S_list (T_val (v := (Value.int .u32 (cN j (ixor .u32 (cbytes (ixor .u32 4294967295 n) (List.take k (ints u))) (IntKind.u32.wrap x14_))))) (x_move rfl) ?_)
      refine S_list (T_val (v := (Value.int .u32 (iand .u32 (cN j (ixor .u32 (cbytes (ixor .u32 4294967295 n) (List.take k (ints u))) (IntKind.u32.wrap x14_))) 1))) (x_bin rfl rfl rfl) ?_)
      refine S_list (T_val (v := (Value.int .u32 (iand .u32 (cN j (ixor .u32 (cbytes (ixor .u32 4294967295 n) (List.take k (ints u))) (IntKind.u32.wrap x14_))) 1))) (x_assign rfl) ?_)
      refine wpList_nil ?_
      refine (X_then (hK25_ _ _ ?_))
      clear hK25_
      refine C_seq (fun K26_ hK26_ => ?_)
      refine C_reg ?_
      refine S_list (T_val (v := (Value.int .u32 (cN j (ixor .u32 (cbytes (ixor .u32 4294967295 n) (List.take k (ints u))) (IntKind.u32.wrap x14_))))) (x_move rfl) ?_)
      refine S_list (T_val (v := (Value.int .u32 ((cN j (ixor .u32 (cbytes (ixor .u32 4294967295 n) (List.take k (ints u))) (IntKind.u32.wrap x14_))) / 2))) (x_shr rfl rfl (by omega) (shrN (by decide) (by decide))) ?_)
      refine S_list (T_val (v := (Value.int .u32 ((cN j (ixor .u32 (cbytes (ixor .u32 4294967295 n) (List.take k (ints u))) (IntKind.u32.wrap x14_))) / 2))) (x_assign rfl) ?_)
      refine wpList_nil ?_
      refine (X_then (hK26_ _ _ ?_))
      clear hK26_
      refine C_seq (fun K27_ hK27_ => ?_)
      refine C_reg ?_
      refine S_list (T_val (v := (Value.int .u32 (iand .u32 (cN j (ixor .u32 (cbytes (ixor .u32 4294967295 n) (List.take k (ints u))) (IntKind.u32.wrap x14_))) 1))) (x_move rfl) ?_)
      refine S_list (T_val (v := (Value.bool (decide (iand .u32 (cN j (ixor .u32 (cbytes (ixor .u32 4294967295 n) (List.take k (ints u))) (IntKind.u32.wrap x14_))) 1 = 1)))) (x_bin rfl rfl rfl) ?_)
      refine wpList_nil ?_
      refine (X_then (hK27_ _ _ ?_))
      clear hK27_
      refine C_cond (b := decide (iand .u32 (cN j (ixor .u32 (cbytes (ixor .u32 4294967295 n) (List.take k (ints u))) (IntKind.u32.wrap x14_))) 1 = 1)) rfl (fun c28_t => ?_) (fun c28_f => ?_)
      · have c28_tp : iand .u32 (cN j (ixor .u32 (cbytes (ixor .u32 4294967295 n) (List.take k (ints u))) (IntKind.u32.wrap x14_))) 1 = 1 := of_decide_eq_true c28_t
        refine C_reg ?_
        refine S_list (T_val (v := (Value.int .u32 ((cN j (ixor .u32 (cbytes (ixor .u32 4294967295 n) (List.take k (ints u))) (IntKind.u32.wrap x14_))) / 2))) (x_move rfl) ?_)
        refine S_list (T_val (v := (Value.int .u32 (ixor .u32 ((cN j (ixor .u32 (cbytes (ixor .u32 4294967295 n) (List.take k (ints u))) (IntKind.u32.wrap x14_))) / 2) 2197175160))) (x_bin rfl rfl rfl) ?_)
        refine S_list (T_val (v := (Value.int .u32 (ixor .u32 ((cN j (ixor .u32 (cbytes (ixor .u32 4294967295 n) (List.take k (ints u))) (IntKind.u32.wrap x14_))) / 2) 2197175160))) (x_assign rfl) ?_)
        refine wpList_nil ?_
        refine (X_blkN (X_then (hK24_ _ _ ?_)))
        clear hK24_
        refine C_reg ?_
        refine S_list (T_val (v := (Value.int .i64 ((j : Int) + 1))) (x_bin rfl rfl (ib_add (IntWalk.i64_in _ (by omega)))) ?_)
        refine S_list (T_val (v := (Value.int .i64 ((j : Int) + 1))) (x_move rfl) ?_)
        refine wpList_nil ?_
        refine (X_then ?_)
        exact ⟨(j + 1), ⟨_, congrArg (fun e => mkA 35 e []) (ch (ch (ch (ch (ch (ch rfl rfl) rfl) (congrArg (Value.int .u32) ((by simp only [cN, cstep]; rw [if_pos c28_tp]) : ixor .u32 ((cN j (ixor .u32 (cbytes (ixor .u32 4294967295 n) (List.take k (ints u))) (IntKind.u32.wrap x14_))) / 2) 2197175160 = cN (j + 1) (ixor .u32 (cbytes (ixor .u32 4294967295 n) (List.take k (ints u))) (IntKind.u32.wrap x14_))))) rfl) rfl) (congrArg (Value.int .i64) ((by first | rfl | omega | (simp; done) | (simp; omega)) : (j : Int) + 1 = ((j + 1 : Nat) : Int)))), H19_, S20_, (by first | assumption | omega | exact rfl)⟩, by first | omega | (dsimp only; omega) | (simp; omega)⟩
      · have c28_fp : ¬ (iand .u32 (cN j (ixor .u32 (cbytes (ixor .u32 4294967295 n) (List.take k (ints u))) (IntKind.u32.wrap x14_))) 1 = 1) := of_decide_eq_false c28_f
        refine C_skip (X_blkN (X_then (hK24_ _ _ ?_)))
        clear hK24_
        refine C_reg ?_
        refine S_list (T_val (v := (Value.int .i64 ((j : Int) + 1))) (x_bin rfl rfl (ib_add (IntWalk.i64_in _ (by omega)))) ?_)
        refine S_list (T_val (v := (Value.int .i64 ((j : Int) + 1))) (x_move rfl) ?_)
        refine wpList_nil ?_
        refine (X_then ?_)
        exact ⟨(j + 1), ⟨_, congrArg (fun e => mkA 35 e []) (ch (ch (ch (ch (ch (ch rfl rfl) rfl) (congrArg (Value.int .u32) ((by simp only [cN, cstep]; rw [if_neg c28_fp]) : (cN j (ixor .u32 (cbytes (ixor .u32 4294967295 n) (List.take k (ints u))) (IntKind.u32.wrap x14_))) / 2 = cN (j + 1) (ixor .u32 (cbytes (ixor .u32 4294967295 n) (List.take k (ints u))) (IntKind.u32.wrap x14_))))) rfl) rfl) (congrArg (Value.int .i64) ((by first | rfl | omega | (simp; done) | (simp; omega)) : (j : Int) + 1 = ((j + 1 : Nat) : Int)))), H19_, S20_, (by first | assumption | omega | exact rfl)⟩, by first | omega | (dsimp only; omega) | (simp; omega)⟩
    · have c23_fp : ¬ ((j : Int) < 8) := of_decide_eq_false c23_f
      refine C_exit (X_thenX (X_thenX (X_blkHit ?_)))
      refine (X_blkN (X_then (hK11_ _ _ ?_)))
      clear hK11_
      refine C_reg ?_
      refine S_list (T_val (v := (Value.int .i64 ((k : Int) + 1))) (x_bin rfl rfl (ib_add (IntWalk.i64_in _ (by omega)))) ?_)
      refine S_list (T_val (v := (Value.int .i64 ((k : Int) + 1))) (x_move rfl) ?_)
      refine wpList_nil ?_
      refine (X_then ?_)
      exact ⟨(k + 1), ⟨_, congrArg (fun e => mkA 35 e []) (ch (ch (ch (ch (ch rfl rfl) rfl) (congrArg (Value.int .u32) ((by rw [cbytes_take hx15_]; obtain rfl : j = 8 := (by omega); rfl) : cN j (ixor .u32 (cbytes (ixor .u32 4294967295 n) (List.take k (ints u))) (IntKind.u32.wrap x14_)) = cbytes (ixor .u32 4294967295 n) (List.take (k + 1) (ints u))))) rfl) (congrArg (Value.int .i64) ((by first | rfl | omega | (simp; done) | (simp; omega)) : (k : Int) + 1 = ((k + 1 : Nat) : Int)))), H19_, S20_, (by first | assumption | omega | exact rfl)⟩, by first | omega | (dsimp only; omega) | (simp; omega)⟩
  · have c10_fp : ¬ ((k : Int) < (u.size : Int)) := of_decide_eq_false c10_f
    refine C_exit (X_thenX (X_thenX (X_blkHit ?_)))
    refine (X_then (hK3_ _ _ ?_))
    clear hK3_
    refine C_seq (fun K29_ hK29_ => ?_)
    refine C_reg ?_
    refine S_list (T_val (v := (Value.int .u32 (cbytes (ixor .u32 4294967295 n) (List.take k (ints u))))) (x_move rfl) ?_)
    refine S_list (T_val (v := (Value.int .u32 (ixor .u32 4294967295 (cbytes (ixor .u32 4294967295 n) (List.take k (ints u)))))) (x_cplU rfl rfl rfl) ?_)
    refine S_list (T_val (v := (Value.int .u32 (ixor .u32 4294967295 (cbytes (ixor .u32 4294967295 n) (List.take k (ints u)))))) (x_assign rfl) ?_)
    refine wpList_nil ?_
    refine (X_then (hK29_ _ _ ?_))
    clear hK29_
    refine C_ret ?_
    refine R_any (v := (Value.int .u32 (ixor .u32 4294967295 (cbytes (ixor .u32 4294967295 n) (List.take k (ints u)))))) (run_results1 rfl rfl) ?_
    exact ⟨_, [], rfl, ⟨(congrArg (Value.int .u32) ((by rw [show k = (ints u).length by omega, List.take_length]; rfl) : ixor .u32 4294967295 (cbytes (ixor .u32 4294967295 n) (List.take k (ints u))) = crc n (ints u))), rfl⟩, S7_, H6_⟩
end Go.Proofs.Ytgeggiebefonhaa
