/- What is written of records, some without a type. -/
import Derived.Test.YtgeggiebefonhaaWcB0
set_option linter.unusedVariables false
set_option linter.unusedSimpArgs false
namespace Go.Proofs.Ytgeggiebefonhaa
open Go Go.RowKit Gw

def wgood (l : List WR) : List WR := l.filter WR.hasType
def wbad (l : List WR) : Nat := (l.filter fun x => !x.hasType).length
theorem wgood_yes {l : List WR} {k : Nat} {x : WR} (h : l[k]? = some x) (ht : x.hasType = true) : wgood (l.take (k + 1)) = wgood (l.take k) ++ [x] := by
  rw [List.take_add_one, h]; simp [wgood, ht]
theorem wgood_no {l : List WR} {k : Nat} {x : WR} (h : l[k]? = some x) (ht : x.hasType = false) : wgood (l.take (k + 1)) = wgood (l.take k) := by
  rw [List.take_add_one, h]; simp [wgood, ht]
theorem wbad_yes {l : List WR} {k : Nat} {x : WR} (h : l[k]? = some x) (ht : x.hasType = true) : wbad (l.take (k + 1)) = wbad (l.take k) := by
  rw [List.take_add_one, h]; simp [wbad, ht]
theorem wbad_no {l : List WR} {k : Nat} {x : WR} (h : l[k]? = some x) (ht : x.hasType = false) : wbad (l.take (k + 1)) = wbad (l.take k) + 1 := by
  rw [List.take_add_one, h]; simp [wbad, ht]
theorem wbad_le (l : List WR) (k : Nat) : wbad (l.take k) ≤ k := by
  have h1 : wbad (l.take k) ≤ (l.take k).length := List.length_filter_le _ _
  rw [List.length_take] at h1; omega
theorem wst_snoc (prev : Int) (l : List WR) (x : WR) : wst prev (l ++ [x]) = wstep (wst prev l) x := by simp [wst]
theorem wfs_snoc (prev : Int) (l : List WR) (x : WR) : wfs prev (l ++ [x]) = wfs prev l ++ [wfr (wnx (wsm prev l) x) x] := by unfold wfs wsm; rw [wst_snoc]; rfl
theorem wsm_snoc (prev : Int) (l : List WR) (x : WR) : wsm prev (l ++ [x]) = wnx (wsm prev l) x := by unfold wsm; rw [wst_snoc]; rfl

set_option maxHeartbeats 400000 in
theorem wEncNone (R : HP) (en rb : Nat) (dv : Value) :
    Tri Try.prog 75 #[(Value.pointer (some ⟨en, 0, none⟩)), (Value.pointer (some ⟨rb, 0, none⟩))] R [cl rb 106 [(Value.pointer none), (Value.pointer none), dv]] (fun v__ post__ => v__ = (Value.iface 217 (Value.string (ByteArray.mk #[114, 101, 99, 111, 114, 100, 32, 105, 115, 32, 109, 105, 115, 115, 105, 110, 103, 32, 116, 121, 112, 101]))) ∧ post__ = [cl rb 106 [(Value.pointer none), (Value.pointer none), dv]]) := by
  refine Tri.intoN (n := 65) (al := [(Value.pointer (some ⟨en, 0, none⟩)), (Value.pointer (some ⟨rb, 0, none⟩))]) Try.func75 rfl Try.ntmps75 rfl rfl fun w F H => ?_
  replace H : Holds w (ro R :: cl rb 106 [(Value.pointer none), (Value.pointer none), dv] :: F) := H
  refine C_seq (fun K1_ hK1_ => ?_)
  refine C_reg ?_
  refine S_list (T_val (v := (Value.nilIface)) (x_assign rfl) ?_)
  refine wpList_nil ?_
  refine (X_then (hK1_ _ _ ?_))
  clear hK1_
  refine C_seq (fun K2_ hK2_ => ?_)
  refine C_seq (fun K3_ hK3_ => ?_)
  refine C_reg ?_
  refine S_list (T_val (v := (Value.pointer (some ⟨rb, 0, none⟩))) (x_move rfl) ?_)
  refine S_list (T_val (v := (Value.pointer (some ⟨rb, 0, none⟩))) (by kernel_rfl) ?_)
  refine S_list (T_val (v := (Value.pointer (some ⟨rb, 0, none⟩))) (by kernel_rfl) ?_)
  refine S_list (T_val (v := (Value.pointer none)) (x_load1 rfl Try.underlying103 rfl ((Holds.rd H 1 rfl) 0 (Value.pointer none) rfl)) ?_)
  refine S_list (T_val (v := (Value.bool true)) (by kernel_rfl) ?_)
  refine wpList_nil ?_
  refine (X_then (hK3_ _ _ ?_))
  clear hK3_
  refine C_condT rfl ?_
  refine C_seq (fun K4_ hK4_ => ?_)
  refine C_reg ?_
  refine S_list (T_val (v := (Value.iface 217 (Value.string (ByteArray.mk #[114, 101, 99, 111, 114, 100, 32, 105, 115, 32, 109, 105, 115, 115, 105, 110, 103, 32, 116, 121, 112, 101])))) (by kernel_rfl) ?_)
  refine S_list (T_val (v := (Value.iface 217 (Value.string (ByteArray.mk #[114, 101, 99, 111, 114, 100, 32, 105, 115, 32, 109, 105, 115, 115, 105, 110, 103, 32, 116, 121, 112, 101])))) (x_assign rfl) ?_)
  refine wpList_nil ?_
  refine (X_then (hK4_ _ _ ?_))
  clear hK4_
  refine C_ret (X_thenR ?_)
  refine R_N ?_
  refine ⟨(Value.iface 217 (Value.string (ByteArray.mk #[114, 101, 99, 111, 114, 100, 32, 105, 115, 32, 109, 105, 115, 115, 105, 110, 103, 32, 116, 121, 112, 101]))), run_results1 rfl rfl, ?_⟩
  exact ⟨_, [cl rb 106 [(Value.pointer none), (Value.pointer none), dv]], rfl, ⟨rfl, rfl⟩, (Same.refl w), H⟩

set_option maxHeartbeats 400000 in
theorem wWalWrite2 (R : HP) (prev : Int) (off : Nat) (rv : Value) (L : List WR) (hL : RS R 6 rv L.length (L.flatMap WR.cells)) (q1 : L.length ≤ 100) (q2 : off ≤ 1048576) (hG : ∀ x ∈ L, x.hasType = true → Good x) (hS : ∀ x ∈ L, x.data.size ≤ 5000) :
    Tri Try.prog 19 #[(Value.int .u32 prev), (Value.int .i64 (off : Int)), rv] R [] (fun v__ post__ => ∃ (v' : Value) (os : List Int), v__ = (Value.tuple #[v', (Value.int .i64 (wbad L : Int))]) ∧ post__ = [sl 5 1 v' (List.length os) (bytesV os)] ∧ (os = (wfs prev (wgood L)).flatten)) := by
  refine Tri.into (n := 70) (al := [(Value.int .u32 prev), (Value.int .i64 (off : Int)), rv]) Try.func19 rfl Try.ntmps19 rfl rfl fun w F H => ?_
  replace H : Holds w (ro R :: F) := H
  refine C_seq (fun K1_ hK1_ => ?_)
  refine C_reg ?_
  refine S_list (T_val (v := (Value.slice none 0 0)) (x_assign rfl) ?_)
  refine S_list (T_val (v := (Value.int .i64 0)) (x_assign rfl) ?_)
  refine wpList_nil ?_
  refine (X_then (hK1_ _ _ ?_))
  clear hK1_
  refine C_seq (fun K2_ hK2_ => ?_)
  refine C_reg ?_
  refine S_list (T_val (v := (Value.agg #[(Value.slice none 0 0)])) (by kernel_rfl) ?_)
  refine S_list (T_box (v := (Value.agg #[(Value.slice none 0 0)])) rfl H ?_)
  intro b3_ w4_ S6_ H5_
  replace H5_ : Holds w4_ (cl b3_ 97 [(Value.slice none 0 0)] :: ro R :: F) := H5_
  have S7_ := Same.trans (Same.refl w) S6_
  refine S_list (T_val (v := (Value.pointer (some ⟨b3_, 0, none⟩))) (x_assign rfl) ?_)
  refine wpList_nil ?_
  refine (X_then (hK2_ _ _ ?_))
  clear hK2_
  refine C_seq (fun K8_ hK8_ => ?_)
  refine C_reg ?_
  refine S_list (T_val (v := (Value.pointer (some ⟨b3_, 0, none⟩))) (x_move rfl) ?_)
  refine S_list (T_val (v := (Value.iface 95 (Value.pointer (some ⟨b3_, 0, none⟩)))) (by kernel_rfl) ?_)
  refine S_list (T_val (v := (Value.int .u32 prev)) (x_move rfl) ?_)
  refine S_list (T_val (v := (Value.int .i64 (off : Int))) (x_move rfl) ?_)
  refine S_list (T_val (v := (Value.int .i64 (max (off : Int) 0))) (x_max2 rfl rfl (max_ite _ _)) ?_)
  refine S_list (T_callW (al := [(Value.iface 95 (Value.pointer (some ⟨b3_, 0, none⟩))), (Value.int .u32 prev), (Value.int .i64 (max (off : Int) 0))]) rfl rfl cb45 (Calls.into (n := 12) (al := [(Value.iface 95 (Value.pointer (some ⟨b3_, 0, none⟩))), (Value.int .u32 prev), (Value.int .i64 (max (off : Int) 0))]) Try.func45 rfl Try.ntmps45 rfl rfl ?_))
  refine C_seq (fun K9_ hK9_ => ?_)
  refine C_reg ?_
  refine S_list (T_alloc z100 H5_ ?_)
  intro b10_ w11_ S13_ H12_
  replace H12_ : Holds w11_ (cl b10_ 100 [(Value.pointer none)] :: cl b3_ 97 [(Value.slice none 0 0)] :: ro R :: F) := H12_
  have S14_ := Same.trans S7_ S13_
  refine wpList_nil ?_
  refine (X_then (hK9_ _ _ ?_))
  clear hK9_
  refine C_seq (fun K15_ hK15_ => ?_)
  refine C_reg ?_
  refine S_list (T_val (v := (Value.iface 95 (Value.pointer (some ⟨b3_, 0, none⟩)))) (x_move rfl) ?_)
  refine S_list (T_val (v := (Value.int .u32 prev)) (x_move rfl) ?_)
  refine S_list (T_val (v := (Value.int .i64 (max (off : Int) 0))) (x_move rfl) ?_)
  have H22_ : Holds w11_ (ro R :: cl b10_ 100 [(Value.pointer none)] :: cl b3_ 97 [(Value.slice none 0 0)] :: F) := (Holds.bring H12_ 2 rfl)
  refine S_list (T_call (al := [(Value.iface 95 (Value.pointer (some ⟨b3_, 0, none⟩))), (Value.int .u32 prev), (Value.int .i64 (((max (off : Int) 0).toNat : Nat) : Int))]) (pre := []) (F := cl b10_ 100 [(Value.pointer none)] :: cl b3_ 97 [(Value.slice none 0 0)] :: F) rfl (lcons rfl (lcons rfl (lcons (congrArg (Value.int .i64) ((by first | rfl | omega | (simp; done) | (simp; omega)) : max (off : Int) 0 = (((max (off : Int) 0).toNat : Nat) : Int))) rfl))) cb74 (wNewEnc R b3_ ((max (off : Int) 0).toNat) prev) H22_ ?_)
  rintro v16_ p26_ w23_ ⟨en17_, pw18_, cb19_, ub20_, bb21_, rfl, rfl⟩ S25_ H24_
  replace H24_ : Holds w23_ (ro R :: cl en17_ 216 [(Value.pointer (some ⟨pw18_, 0, none⟩)), (Value.pointer (some ⟨cb19_, 0, none⟩)), (Value.slice (some ⟨ub20_, 0, none⟩) 8 8)] :: cl cb19_ 244 [(Value.int .u32 prev)] :: cl ub20_ 5 [(Value.int .u8 0), (Value.int .u8 0), (Value.int .u8 0), (Value.int .u8 0), (Value.int .u8 0), (Value.int .u8 0), (Value.int .u8 0), (Value.int .u8 0)] :: cl pw18_ 255 [(Value.iface 95 (Value.pointer (some ⟨b3_, 0, none⟩))), (Value.int .i64 (((max (off : Int) 0).toNat : Nat) : Int)), (Value.int .i64 4096), (Value.int .i64 0), (Value.slice (some ⟨bb21_, 0, none⟩) 135168 135168), (Value.int .i64 131072)] :: cl bb21_ 5 (bytesV ([] : List Int) ++ List.replicate 135168 (Value.int .u8 0)) :: cl b10_ 100 [(Value.pointer none)] :: cl b3_ 97 [(Value.slice none 0 0)] :: F) := H24_
  have S27_ := Same.trans S14_ S25_
  refine S_list (T_val (v := (Value.agg #[(Value.pointer (some ⟨en17_, 0, none⟩))])) (by kernel_rfl) ?_)
  refine S_list0 (T_storeN (vs := [(Value.pointer (some ⟨en17_, 0, none⟩))]) rfl rfl z100 rfl (by simp [Value.oneCell']) H24_ 6 rfl (Nat.le_of_ble_eq_true (by rfl)) ?_)
  intro w28_ S30_ H29_
  replace H29_ : Holds w28_ (ro R :: cl en17_ 216 [(Value.pointer (some ⟨pw18_, 0, none⟩)), (Value.pointer (some ⟨cb19_, 0, none⟩)), (Value.slice (some ⟨ub20_, 0, none⟩) 8 8)] :: cl cb19_ 244 [(Value.int .u32 prev)] :: cl ub20_ 5 [(Value.int .u8 0), (Value.int .u8 0), (Value.int .u8 0), (Value.int .u8 0), (Value.int .u8 0), (Value.int .u8 0), (Value.int .u8 0), (Value.int .u8 0)] :: cl pw18_ 255 [(Value.iface 95 (Value.pointer (some ⟨b3_, 0, none⟩))), (Value.int .i64 (((max (off : Int) 0).toNat : Nat) : Int)), (Value.int .i64 4096), (Value.int .i64 0), (Value.slice (some ⟨bb21_, 0, none⟩) 135168 135168), (Value.int .i64 131072)] :: cl bb21_ 5 (bytesV ([] : List Int) ++ List.replicate 135168 (Value.int .u8 0)) :: cl b10_ 100 [(Value.pointer (some ⟨en17_, 0, none⟩))] :: cl b3_ 97 [(Value.slice none 0 0)] :: F) := H29_
  have S31_ := Same.trans S27_ S30_
  refine wpList_nil ?_
  refine (X_then (hK15_ _ _ ?_))
  clear hK15_
  refine C_ret ?_
  refine R_any (v := (Value.agg #[(Value.pointer (some ⟨en17_, 0, none⟩))])) (run_results1 rfl ⟨_, rfl, load_resN Try.underlying100 rfl z100 rfl (vs := [(Value.pointer (some ⟨en17_, 0, none⟩))]) (Holds.cl_cells H29_ 6 rfl 0 rfl)⟩) ⟨_, rfl, ?_⟩
  refine S_list (T_alloc z100 H29_ ?_)
  intro b32_ w33_ S35_ H34_
  replace H34_ : Holds w33_ (cl b32_ 100 [(Value.pointer none)] :: ro R :: cl en17_ 216 [(Value.pointer (some ⟨pw18_, 0, none⟩)), (Value.pointer (some ⟨cb19_, 0, none⟩)), (Value.slice (some ⟨ub20_, 0, none⟩) 8 8)] :: cl cb19_ 244 [(Value.int .u32 prev)] :: cl ub20_ 5 [(Value.int .u8 0), (Value.int .u8 0), (Value.int .u8 0), (Value.int .u8 0), (Value.int .u8 0), (Value.int .u8 0), (Value.int .u8 0), (Value.int .u8 0)] :: cl pw18_ 255 [(Value.iface 95 (Value.pointer (some ⟨b3_, 0, none⟩))), (Value.int .i64 (((max (off : Int) 0).toNat : Nat) : Int)), (Value.int .i64 4096), (Value.int .i64 0), (Value.slice (some ⟨bb21_, 0, none⟩) 135168 135168), (Value.int .i64 131072)] :: cl bb21_ 5 (bytesV ([] : List Int) ++ List.replicate 135168 (Value.int .u8 0)) :: cl b10_ 100 [(Value.pointer (some ⟨en17_, 0, none⟩))] :: cl b3_ 97 [(Value.slice none 0 0)] :: F) := H34_
  have S36_ := Same.trans S31_ S35_
  refine S_list0 (T_storeN (vs := [(Value.pointer (some ⟨en17_, 0, none⟩))]) rfl rfl z100 rfl (by simp [Value.oneCell']) H34_ 0 rfl (Nat.le_of_ble_eq_true (by rfl)) ?_)
  intro w37_ S39_ H38_
  replace H38_ : Holds w37_ (cl b32_ 100 [(Value.pointer (some ⟨en17_, 0, none⟩))] :: ro R :: cl en17_ 216 [(Value.pointer (some ⟨pw18_, 0, none⟩)), (Value.pointer (some ⟨cb19_, 0, none⟩)), (Value.slice (some ⟨ub20_, 0, none⟩) 8 8)] :: cl cb19_ 244 [(Value.int .u32 prev)] :: cl ub20_ 5 [(Value.int .u8 0), (Value.int .u8 0), (Value.int .u8 0), (Value.int .u8 0), (Value.int .u8 0), (Value.int .u8 0), (Value.int .u8 0), (Value.int .u8 0)] :: cl pw18_ 255 [(Value.iface 95 (Value.pointer (some ⟨b3_, 0, none⟩))), (Value.int .i64 (((max (off : Int) 0).toNat : Nat) : Int)), (Value.int .i64 4096), (Value.int .i64 0), (Value.slice (some ⟨bb21_, 0, none⟩) 135168 135168), (Value.int .i64 131072)] :: cl bb21_ 5 (bytesV ([] : List Int) ++ List.replicate 135168 (Value.int .u8 0)) :: cl b10_ 100 [(Value.pointer (some ⟨en17_, 0, none⟩))] :: cl b3_ 97 [(Value.slice none 0 0)] :: F) := H38_
  have S40_ := Same.trans S36_ S39_
  refine wpList_nil ?_
  refine (X_then (hK8_ _ _ ?_))
  clear hK8_
  refine C_seq (fun K41_ hK41_ => ?_)
  refine C_reg ?_
  refine S_list (T_val (v := (Value.int .i64 0)) (x_assign rfl) ?_)
  refine wpList_nil ?_
  refine (X_then (hK41_ _ _ ?_))
  clear hK41_
  refine C_seq (fun K42_ hK42_ => ?_)
  refine C_seq (fun K43_ hK43_ => ?_)
  refine C_reg ?_
  refine S_list (T_val (v := (Value.int .i64 0)) (x_assign rfl) ?_)
  refine wpList_nil ?_
  refine (X_then (hK43_ _ _ ?_))
  clear hK43_
  refine C_block ?_
  have H44_ : Holds w37_ (sl 5 1 (Value.slice none 0 0) (List.length ([] : List Int)) (bytesV ([] : List Int)) :: cl b32_ 100 [(Value.pointer (some ⟨en17_, 0, none⟩))] :: ro R :: cl en17_ 216 [(Value.pointer (some ⟨pw18_, 0, none⟩)), (Value.pointer (some ⟨cb19_, 0, none⟩)), (Value.slice (some ⟨ub20_, 0, none⟩) 8 8)] :: cl cb19_ 244 [(Value.int .u32 prev)] :: cl ub20_ 5 [(Value.int .u8 0), (Value.int .u8 0), (Value.int .u8 0), (Value.int .u8 0), (Value.int .u8 0), (Value.int .u8 0), (Value.int .u8 0), (Value.int .u8 0)] :: cl pw18_ 255 [(Value.iface 95 (Value.pointer (some ⟨b3_, 0, none⟩))), (Value.int .i64 (((max (off : Int) 0).toNat : Nat) : Int)), (Value.int .i64 4096), (Value.int .i64 0), (Value.slice (some ⟨bb21_, 0, none⟩) 135168 135168), (Value.int .i64 131072)] :: cl bb21_ 5 (bytesV ([] : List Int) ++ List.replicate 135168 (Value.int .u8 0)) :: cl b10_ 100 [(Value.pointer (some ⟨en17_, 0, none⟩))] :: cl b3_ 97 [(Value.slice none 0 0)] :: F) := Holds.add_nil H38_ 5 1
  have H45_ : Holds w37_ (sl 5 1 (Value.slice none 0 0) (List.length ([] : List Int)) (bytesV ([] : List Int)) :: cl b32_ 100 [(Value.pointer (some ⟨en17_, 0, none⟩))] :: ro R :: cl en17_ 216 [(Value.pointer (some ⟨pw18_, 0, none⟩)), (Value.pointer (some ⟨cb19_, 0, none⟩)), (Value.slice (some ⟨ub20_, 0, none⟩) 8 8)] :: cl cb19_ 244 [(Value.int .u32 (wsm prev (wgood (List.take 0 L))))] :: cl ub20_ 5 [(Value.int .u8 0), (Value.int .u8 0), (Value.int .u8 0), (Value.int .u8 0), (Value.int .u8 0), (Value.int .u8 0), (Value.int .u8 0), (Value.int .u8 0)] :: cl pw18_ 255 [(Value.iface 95 (Value.pointer (some ⟨b3_, 0, none⟩))), (Value.int .i64 (((max (off : Int) 0).toNat : Nat) : Int)), (Value.int .i64 4096), (Value.int .i64 0), (Value.slice (some ⟨bb21_, 0, none⟩) 135168 135168), (Value.int .i64 131072)] :: cl bb21_ 5 (bytesV ([] : List Int) ++ List.replicate 135168 (Value.int .u8 0)) :: cl b10_ 100 [(Value.pointer (some ⟨en17_, 0, none⟩))] :: cl b3_ 97 [(Value.slice none 0 0)] :: F) := cast1 (P := fun (c__ : List Value) => Holds w37_ (sl 5 1 (Value.slice none 0 0) (List.length ([] : List Int)) (bytesV ([] : List Int)) :: cl b32_ 100 [(Value.pointer (some ⟨en17_, 0, none⟩))] :: ro R :: cl en17_ 216 [(Value.pointer (some ⟨pw18_, 0, none⟩)), (Value.pointer (some ⟨cb19_, 0, none⟩)), (Value.slice (some ⟨ub20_, 0, none⟩) 8 8)] :: cl cb19_ 244 c__ :: cl ub20_ 5 [(Value.int .u8 0), (Value.int .u8 0), (Value.int .u8 0), (Value.int .u8 0), (Value.int .u8 0), (Value.int .u8 0), (Value.int .u8 0), (Value.int .u8 0)] :: cl pw18_ 255 [(Value.iface 95 (Value.pointer (some ⟨b3_, 0, none⟩))), (Value.int .i64 (((max (off : Int) 0).toNat : Nat) : Int)), (Value.int .i64 4096), (Value.int .i64 0), (Value.slice (some ⟨bb21_, 0, none⟩) 135168 135168), (Value.int .i64 131072)] :: cl bb21_ 5 (bytesV ([] : List Int) ++ List.replicate 135168 (Value.int .u8 0)) :: cl b10_ 100 [(Value.pointer (some ⟨en17_, 0, none⟩))] :: cl b3_ 97 [(Value.slice none 0 0)] :: F)) ((lcons (congrArg (Value.int .u32) ((by first | rfl | omega | (simp; done) | (simp; omega)) : prev = wsm prev (wgood (List.take 0 L)))) rfl) : [(Value.int .u32 prev)] = [(Value.int .u32 (wsm prev (wgood (List.take 0 L))))]) H44_
  have H46_ : Holds w37_ (sl 5 1 (Value.slice none 0 0) (List.length ([] : List Int)) (bytesV ([] : List Int)) :: cl b32_ 100 [(Value.pointer (some ⟨en17_, 0, none⟩))] :: ro R :: cl en17_ 216 [(Value.pointer (some ⟨pw18_, 0, none⟩)), (Value.pointer (some ⟨cb19_, 0, none⟩)), (Value.slice (some ⟨ub20_, 0, none⟩) 8 8)] :: cl cb19_ 244 [(Value.int .u32 (wsm prev (wgood (List.take 0 L))))] :: cl ub20_ 5 [((Value.int .u8 0)), ((Value.int .u8 0)), ((Value.int .u8 0)), ((Value.int .u8 0)), ((Value.int .u8 0)), ((Value.int .u8 0)), ((Value.int .u8 0)), ((Value.int .u8 0))] :: cl pw18_ 255 [(Value.iface 95 (Value.pointer (some ⟨b3_, 0, none⟩))), (Value.int .i64 (((max (off : Int) 0).toNat : Nat) : Int)), (Value.int .i64 4096), (Value.int .i64 0), (Value.slice (some ⟨bb21_, 0, none⟩) 135168 135168), (Value.int .i64 131072)] :: cl bb21_ 5 (bytesV ([] : List Int) ++ List.replicate 135168 (Value.int .u8 0)) :: cl b10_ 100 [(Value.pointer (some ⟨en17_, 0, none⟩))] :: cl b3_ 97 [(Value.slice none 0 0)] :: F) := cast1 (P := fun (c__ : List Value) => Holds w37_ (sl 5 1 (Value.slice none 0 0) (List.length ([] : List Int)) (bytesV ([] : List Int)) :: cl b32_ 100 [(Value.pointer (some ⟨en17_, 0, none⟩))] :: ro R :: cl en17_ 216 [(Value.pointer (some ⟨pw18_, 0, none⟩)), (Value.pointer (some ⟨cb19_, 0, none⟩)), (Value.slice (some ⟨ub20_, 0, none⟩) 8 8)] :: cl cb19_ 244 [(Value.int .u32 (wsm prev (wgood (List.take 0 L))))] :: cl ub20_ 5 c__ :: cl pw18_ 255 [(Value.iface 95 (Value.pointer (some ⟨b3_, 0, none⟩))), (Value.int .i64 (((max (off : Int) 0).toNat : Nat) : Int)), (Value.int .i64 4096), (Value.int .i64 0), (Value.slice (some ⟨bb21_, 0, none⟩) 135168 135168), (Value.int .i64 131072)] :: cl bb21_ 5 (bytesV ([] : List Int) ++ List.replicate 135168 (Value.int .u8 0)) :: cl b10_ 100 [(Value.pointer (some ⟨en17_, 0, none⟩))] :: cl b3_ 97 [(Value.slice none 0 0)] :: F)) ((lcons (rfl : (Value.int .u8 0) = ((Value.int .u8 0))) (lcons (rfl : (Value.int .u8 0) = ((Value.int .u8 0))) (lcons (rfl : (Value.int .u8 0) = ((Value.int .u8 0))) (lcons (rfl : (Value.int .u8 0) = ((Value.int .u8 0))) (lcons (rfl : (Value.int .u8 0) = ((Value.int .u8 0))) (lcons (rfl : (Value.int .u8 0) = ((Value.int .u8 0))) (lcons (rfl : (Value.int .u8 0) = ((Value.int .u8 0))) (lcons (rfl : (Value.int .u8 0) = ((Value.int .u8 0))) rfl)))))))) : [(Value.int .u8 0), (Value.int .u8 0), (Value.int .u8 0), (Value.int .u8 0), (Value.int .u8 0), (Value.int .u8 0), (Value.int .u8 0), (Value.int .u8 0)] = [((Value.int .u8 0)), ((Value.int .u8 0)), ((Value.int .u8 0)), ((Value.int .u8 0)), ((Value.int .u8 0)), ((Value.int .u8 0)), ((Value.int .u8 0)), ((Value.int .u8 0))]) H45_
  have H47_ : Holds w37_ (sl 5 1 (Value.slice none 0 0) (List.length ([] : List Int)) (bytesV ([] : List Int)) :: cl b32_ 100 [(Value.pointer (some ⟨en17_, 0, none⟩))] :: ro R :: cl en17_ 216 [(Value.pointer (some ⟨pw18_, 0, none⟩)), (Value.pointer (some ⟨cb19_, 0, none⟩)), (Value.slice (some ⟨ub20_, 0, none⟩) 8 8)] :: cl cb19_ 244 [(Value.int .u32 (wsm prev (wgood (List.take 0 L))))] :: cl ub20_ 5 [((Value.int .u8 0)), ((Value.int .u8 0)), ((Value.int .u8 0)), ((Value.int .u8 0)), ((Value.int .u8 0)), ((Value.int .u8 0)), ((Value.int .u8 0)), ((Value.int .u8 0))] :: cl pw18_ 255 [(Value.iface 95 (Value.pointer (some ⟨b3_, 0, none⟩))), (Value.int .i64 (((max (off : Int) 0).toNat : Nat) : Int)), (Value.int .i64 4096), (Value.int .i64 (([] : List Int).length : Int)), (Value.slice (some ⟨bb21_, 0, none⟩) 135168 135168), (Value.int .i64 131072)] :: cl bb21_ 5 (bytesV ([] : List Int) ++ List.replicate 135168 (Value.int .u8 0)) :: cl b10_ 100 [(Value.pointer (some ⟨en17_, 0, none⟩))] :: cl b3_ 97 [(Value.slice none 0 0)] :: F) := cast1 (P := fun (c__ : List Value) => Holds w37_ (sl 5 1 (Value.slice none 0 0) (List.length ([] : List Int)) (bytesV ([] : List Int)) :: cl b32_ 100 [(Value.pointer (some ⟨en17_, 0, none⟩))] :: ro R :: cl en17_ 216 [(Value.pointer (some ⟨pw18_, 0, none⟩)), (Value.pointer (some ⟨cb19_, 0, none⟩)), (Value.slice (some ⟨ub20_, 0, none⟩) 8 8)] :: cl cb19_ 244 [(Value.int .u32 (wsm prev (wgood (List.take 0 L))))] :: cl ub20_ 5 [((Value.int .u8 0)), ((Value.int .u8 0)), ((Value.int .u8 0)), ((Value.int .u8 0)), ((Value.int .u8 0)), ((Value.int .u8 0)), ((Value.int .u8 0)), ((Value.int .u8 0))] :: cl pw18_ 255 c__ :: cl bb21_ 5 (bytesV ([] : List Int) ++ List.replicate 135168 (Value.int .u8 0)) :: cl b10_ 100 [(Value.pointer (some ⟨en17_, 0, none⟩))] :: cl b3_ 97 [(Value.slice none 0 0)] :: F)) ((lcons rfl (lcons rfl (lcons rfl (lcons (congrArg (Value.int .i64) ((by first | rfl | omega | (simp; done) | (simp; omega)) : 0 = (([] : List Int).length : Int))) rfl)))) : [(Value.iface 95 (Value.pointer (some ⟨b3_, 0, none⟩))), (Value.int .i64 (((max (off : Int) 0).toNat : Nat) : Int)), (Value.int .i64 4096), (Value.int .i64 0), (Value.slice (some ⟨bb21_, 0, none⟩) 135168 135168), (Value.int .i64 131072)] = [(Value.iface 95 (Value.pointer (some ⟨b3_, 0, none⟩))), (Value.int .i64 (((max (off : Int) 0).toNat : Nat) : Int)), (Value.int .i64 4096), (Value.int .i64 (([] : List Int).length : Int)), (Value.slice (some ⟨bb21_, 0, none⟩) 135168 135168), (Value.int .i64 131072)]) H46_
  have H48_ : Holds w37_ (sl 5 1 (Value.slice none 0 0) (List.length ([] : List Int)) (bytesV ([] : List Int)) :: cl b32_ 100 [(Value.pointer (some ⟨en17_, 0, none⟩))] :: ro R :: cl en17_ 216 [(Value.pointer (some ⟨pw18_, 0, none⟩)), (Value.pointer (some ⟨cb19_, 0, none⟩)), (Value.slice (some ⟨ub20_, 0, none⟩) 8 8)] :: cl cb19_ 244 [(Value.int .u32 (wsm prev (wgood (List.take 0 L))))] :: cl ub20_ 5 [((Value.int .u8 0)), ((Value.int .u8 0)), ((Value.int .u8 0)), ((Value.int .u8 0)), ((Value.int .u8 0)), ((Value.int .u8 0)), ((Value.int .u8 0)), ((Value.int .u8 0))] :: cl pw18_ 255 [(Value.iface 95 (Value.pointer (some ⟨b3_, 0, none⟩))), (Value.int .i64 (((max (off : Int) 0).toNat : Nat) : Int)), (Value.int .i64 4096), (Value.int .i64 (([] : List Int).length : Int)), (Value.slice (some ⟨bb21_, 0, none⟩) 135168 135168), (Value.int .i64 131072)] :: cl bb21_ 5 (bytesV ([] : List Int) ++ (List.replicate 135168 (Value.int .u8 0))) :: cl b10_ 100 [(Value.pointer (some ⟨en17_, 0, none⟩))] :: cl b3_ 97 [(Value.slice none 0 0)] :: F) := cast1 (P := fun (c__ : List Value) => Holds w37_ (sl 5 1 (Value.slice none 0 0) (List.length ([] : List Int)) (bytesV ([] : List Int)) :: cl b32_ 100 [(Value.pointer (some ⟨en17_, 0, none⟩))] :: ro R :: cl en17_ 216 [(Value.pointer (some ⟨pw18_, 0, none⟩)), (Value.pointer (some ⟨cb19_, 0, none⟩)), (Value.slice (some ⟨ub20_, 0, none⟩) 8 8)] :: cl cb19_ 244 [(Value.int .u32 (wsm prev (wgood (List.take 0 L))))] :: cl ub20_ 5 [((Value.int .u8 0)), ((Value.int .u8 0)), ((Value.int .u8 0)), ((Value.int .u8 0)), ((Value.int .u8 0)), ((Value.int .u8 0)), ((Value.int .u8 0)), ((Value.int .u8 0))] :: cl pw18_ 255 [(Value.iface 95 (Value.pointer (some ⟨b3_, 0, none⟩))), (Value.int .i64 (((max (off : Int) 0).toNat : Nat) : Int)), (Value.int .i64 4096), (Value.int .i64 (([] : List Int).length : Int)), (Value.slice (some ⟨bb21_, 0, none⟩) 135168 135168), (Value.int .i64 131072)] :: cl bb21_ 5 c__ :: cl b10_ 100 [(Value.pointer (some ⟨en17_, 0, none⟩))] :: cl b3_ 97 [(Value.slice none 0 0)] :: F)) (rfl : bytesV ([] : List Int) ++ List.replicate 135168 (Value.int .u8 0) = bytesV ([] : List Int) ++ (List.replicate 135168 (Value.int .u8 0))) H47_
  have H49_ : Holds w37_ (sl 5 1 (Value.slice none 0 0) (List.length ([] : List Int)) (bytesV ([] : List Int)) :: cl b32_ 100 [(Value.pointer (some ⟨en17_, 0, none⟩))] :: ro R :: cl en17_ 216 [(Value.pointer (some ⟨pw18_, 0, none⟩)), (Value.pointer (some ⟨cb19_, 0, none⟩)), (Value.slice (some ⟨ub20_, 0, none⟩) 8 8)] :: cl cb19_ 244 [(Value.int .u32 (wsm prev (wgood (List.take 0 L))))] :: cl ub20_ 5 [((Value.int .u8 0)), ((Value.int .u8 0)), ((Value.int .u8 0)), ((Value.int .u8 0)), ((Value.int .u8 0)), ((Value.int .u8 0)), ((Value.int .u8 0)), ((Value.int .u8 0))] :: cl pw18_ 255 [(Value.iface 95 (Value.pointer (some ⟨b3_, 0, none⟩))), (Value.int .i64 (((max (off : Int) 0).toNat : Nat) : Int)), (Value.int .i64 4096), (Value.int .i64 (([] : List Int).length : Int)), (Value.slice (some ⟨bb21_, 0, none⟩) 135168 135168), (Value.int .i64 131072)] :: cl bb21_ 5 (bytesV ([] : List Int) ++ (List.replicate 135168 (Value.int .u8 0))) :: cl b10_ 100 [(Value.pointer (some ⟨en17_, 0, none⟩))] :: cl b3_ 97 [((Value.slice none 0 0))] :: F) := cast1 (P := fun (c__ : List Value) => Holds w37_ (sl 5 1 (Value.slice none 0 0) (List.length ([] : List Int)) (bytesV ([] : List Int)) :: cl b32_ 100 [(Value.pointer (some ⟨en17_, 0, none⟩))] :: ro R :: cl en17_ 216 [(Value.pointer (some ⟨pw18_, 0, none⟩)), (Value.pointer (some ⟨cb19_, 0, none⟩)), (Value.slice (some ⟨ub20_, 0, none⟩) 8 8)] :: cl cb19_ 244 [(Value.int .u32 (wsm prev (wgood (List.take 0 L))))] :: cl ub20_ 5 [((Value.int .u8 0)), ((Value.int .u8 0)), ((Value.int .u8 0)), ((Value.int .u8 0)), ((Value.int .u8 0)), ((Value.int .u8 0)), ((Value.int .u8 0)), ((Value.int .u8 0))] :: cl pw18_ 255 [(Value.iface 95 (Value.pointer (some ⟨b3_, 0, none⟩))), (Value.int .i64 (((max (off : Int) 0).toNat : Nat) : Int)), (Value.int .i64 4096), (Value.int .i64 (([] : List Int).length : Int)), (Value.slice (some ⟨bb21_, 0, none⟩) 135168 135168), (Value.int .i64 131072)] :: cl bb21_ 5 (bytesV ([] : List Int) ++ (List.replicate 135168 (Value.int .u8 0))) :: cl b10_ 100 [(Value.pointer (some ⟨en17_, 0, none⟩))] :: cl b3_ 97 c__ :: F)) ((lcons (rfl : (Value.slice none 0 0) = ((Value.slice none 0 0))) rfl) : [(Value.slice none 0 0)] = [((Value.slice none 0 0))]) H48_
  refine C_loop (γ := Nat × Nat × (List Int) × (List Value) × Value × (List Int) × Value × Value × Value × Value × Value × Value × Value × Value) (fun x a w1 => match x with | ⟨k, po, pd, junk, V, os, c0, c1, c2, c3, c4, c5, c6, c7⟩ => ∃ h : Env, a = mkA 70 (upd (upd (upd (upd (upd (upd (upd h 2 rv) 6 (Value.slice none 0 0)) 7 (Value.int .i64 0)) 8 (Value.pointer (some ⟨b3_, 0, none⟩))) 9 (Value.pointer (some ⟨b32_, 0, none⟩))) 10 (Value.int .i64 (wbad (List.take k L) : Int))) 11 (Value.int .i64 (k : Int))) [] ∧ Holds w1 (sl 5 1 V (List.length os) (bytesV os) :: cl b32_ 100 [(Value.pointer (some ⟨en17_, 0, none⟩))] :: ro R :: cl en17_ 216 [(Value.pointer (some ⟨pw18_, 0, none⟩)), (Value.pointer (some ⟨cb19_, 0, none⟩)), (Value.slice (some ⟨ub20_, 0, none⟩) 8 8)] :: cl cb19_ 244 [(Value.int .u32 (wsm prev (wgood (List.take k L))))] :: cl ub20_ 5 [c0, c1, c2, c3, c4, c5, c6, c7] :: cl pw18_ 255 [(Value.iface 95 (Value.pointer (some ⟨b3_, 0, none⟩))), (Value.int .i64 (po : Int)), (Value.int .i64 4096), (Value.int .i64 (pd.length : Int)), (Value.slice (some ⟨bb21_, 0, none⟩) 135168 135168), (Value.int .i64 131072)] :: cl bb21_ 5 (bytesV pd ++ junk) :: cl b10_ 100 [(Value.pointer (some ⟨en17_, 0, none⟩))] :: cl b3_ 97 [V] :: F) ∧ Same w w1 ∧ (os ++ pd = (wfs prev (wgood (List.take k L))).flatten) ∧ (k ≤ L.length) ∧ (po ≤ 2097152) ∧ (pd.length + junk.length = 135168) ∧ (pd.length + (4096 - (po + pd.length) % 4096) ≤ 135168) ∧ (os.length + pd.length ≤ 6000 * k)) (fun x => match x with | ⟨k, po, pd, junk, V, os, c0, c1, c2, c3, c4, c5, c6, c7⟩ => L.length - k) (⟨0, ((max (off : Int) 0).toNat), ([] : List Int), (List.replicate 135168 (Value.int .u8 0)), (Value.slice none 0 0), ([] : List Int), (Value.int .u8 0), (Value.int .u8 0), (Value.int .u8 0), (Value.int .u8 0), (Value.int .u8 0), (Value.int .u8 0), (Value.int .u8 0), (Value.int .u8 0)⟩) ⟨_, congrArg (fun e => mkA 70 e []) (ch (ch (ch (ch (ch (ch (ch rfl rfl) rfl) rfl) rfl) rfl) (congrArg (Value.int .i64) (rfl : 0 = (wbad (List.take 0 L) : Int)))) (congrArg (Value.int .i64) ((by first | rfl | omega | (simp; done) | (simp; omega)) : 0 = (0 : Int)))), H49_, S40_, (rfl), (by first | assumption | omega | exact rfl), (by omega), (by rw [List.length_replicate]; rfl), (by simp only [List.length_nil]; omega), (by simp)⟩ ?_
  rintro ⟨k, po, pd, junk, V, os, c0, c1, c2, c3, c4, c5, c6, c7⟩ _ w50_ ⟨h, rfl, H51_, S52_, hos, hkl, hpo, hj, hinv, hlen⟩
  refine C_seq (fun K53_ hK53_ => ?_)
  refine C_seq (fun K54_ hK54_ => ?_)
  refine C_reg ?_
  refine S_list (T_val (v := (Value.int .i64 (k : Int))) (x_move rfl) ?_)
  refine S_list (T_val (v := rv) (x_move rfl) ?_)
  refine S_list (T_val (v := (Value.int .i64 (L.length : Int))) (x_lenRS rfl hL Try.underlying49) ?_)
  refine S_list (T_val (v := (Value.bool (decide ((k : Int) < (L.length : Int))))) (x_bin rfl rfl rfl) ?_)
  refine wpList_nil ?_
  refine (X_then (hK54_ _ _ ?_))
  clear hK54_
  refine C_cond (b := decide ((k : Int) < (L.length : Int))) rfl (fun c55_t => ?_) (fun c55_f => ?_)
  · have c55_tp : (k : Int) < (L.length : Int) := of_decide_eq_true c55_t
    refine C_skip (X_then (hK53_ _ _ ?_))
    clear hK53_
    refine C_seq (fun K56_ hK56_ => ?_)
    refine C_block ?_
    refine C_seq (fun K57_ hK57_ => ?_)
    refine C_reg ?_
    refine S_list (T_val (v := (Value.agg #[(Value.pointer none), (Value.pointer none), (Value.slice none 0 0)])) (by kernel_rfl) ?_)
    refine S_list (T_box (v := (Value.agg #[(Value.pointer none), (Value.pointer none), (Value.slice none 0 0)])) rfl H51_ ?_)
    intro b58_ w59_ S61_ H60_
    replace H60_ : Holds w59_ (cl b58_ 106 [(Value.pointer none), (Value.pointer none), (Value.slice none 0 0)] :: sl 5 1 V (List.length os) (bytesV os) :: cl b32_ 100 [(Value.pointer (some ⟨en17_, 0, none⟩))] :: ro R :: cl en17_ 216 [(Value.pointer (some ⟨pw18_, 0, none⟩)), (Value.pointer (some ⟨cb19_, 0, none⟩)), (Value.slice (some ⟨ub20_, 0, none⟩) 8 8)] :: cl cb19_ 244 [(Value.int .u32 (wsm prev (wgood (List.take k L))))] :: cl ub20_ 5 [c0, c1, c2, c3, c4, c5, c6, c7] :: cl pw18_ 255 [(Value.iface 95 (Value.pointer (some ⟨b3_, 0, none⟩))), (Value.int .i64 (po : Int)), (Value.int .i64 4096), (Value.int .i64 (pd.length : Int)), (Value.slice (some ⟨bb21_, 0, none⟩) 135168 135168), (Value.int .i64 131072)] :: cl bb21_ 5 (bytesV pd ++ junk) :: cl b10_ 100 [(Value.pointer (some ⟨en17_, 0, none⟩))] :: cl b3_ 97 [V] :: F) := H60_
    have S62_ := Same.trans S52_ S61_
    refine S_list (T_val (v := (Value.pointer (some ⟨b58_, 0, none⟩))) (x_assign rfl) ?_)
    refine wpList_nil ?_
    refine (X_then (hK57_ _ _ ?_))
    clear hK57_
    refine C_seq (fun K63_ hK63_ => ?_)
    refine C_seq (fun K64_ hK64_ => ?_)
    refine C_reg ?_
    refine S_list (T_val (v := rv) (x_move rfl) ?_)
    refine S_list (T_val (v := (Value.int .i64 (k : Int))) (x_move rfl) ?_)
    obtain ⟨x65_, hx66_, hm67_⟩ := elem_at L k (by omega)
    have hp68_ := hG x65_ hm67_
    have hp69_ := hS x65_ hm67_
    have hg70_ := hG x65_ hm67_
    have := hS x65_ hm67_
    have := wbad_le L k
    refine S_list (T_val (v := (Value.pointer (some ⟨(sb rv), so rv + (k * 6 + 0), none⟩))) (x_idxRS (v := rv) rfl hL rfl Try.underlying49 z63 (by omega) (by omega) (by omega : _ = k) rfl) ?_)
    refine S_list (T_val (v := (Value.pointer (some ⟨(sb rv), so rv + (k * 6 + 1), none⟩))) (by kernel_rfl) ?_)
    refine S_list (T_val (v := (Value.bool x65_.hasType)) (x_load1 rfl Try.underlying4 rfl (RC.cell (RS.rc hL) (Holds.ro_at H60_ 3 rfl) (j := k * 6 + 1) (u := (Value.bool x65_.hasType)) (fm_cell WR.len hx66_ (i := 1) rfl))) ?_)
    refine wpList_nil ?_
    refine (X_then (hK64_ _ _ ?_))
    clear hK64_
    refine C_cond (b := x65_.hasType) rfl (fun c71_t => ?_) (fun c71_f => ?_)
    · skip
      refine C_seq (fun K72_ hK72_ => ?_)
      refine C_reg ?_
      refine S_list (T_val (v := rv) (x_move rfl) ?_)
      refine S_list (T_val (v := (Value.int .i64 (k : Int))) (x_move rfl) ?_)
      refine S_list (T_val (v := (Value.pointer (some ⟨(sb rv), so rv + (k * 6 + 0), none⟩))) (x_idxRS (v := rv) rfl hL rfl Try.underlying49 z63 (by omega) (by omega) (by omega : _ = k) rfl) ?_)
      refine S_list (T_val (v := (Value.pointer (some ⟨(sb rv), so rv + (k * 6 + 0), none⟩))) (by kernel_rfl) ?_)
      refine S_list (T_val (v := (Value.int .i64 x65_.type_)) (x_load1 rfl Try.underlying2 rfl (RC.cell (RS.rc hL) (Holds.ro_at H60_ 3 rfl) (j := k * 6 + 0) (u := (Value.int .i64 x65_.type_)) (fm_cell WR.len hx66_ (i := 0) rfl))) ?_)
      refine S_list (T_alloc z2 H60_ ?_)
      intro b73_ w74_ S76_ H75_
      replace H75_ : Holds w74_ (cl b73_ 2 [(Value.int .i64 0)] :: cl b58_ 106 [(Value.pointer none), (Value.pointer none), (Value.slice none 0 0)] :: sl 5 1 V (List.length os) (bytesV os) :: cl b32_ 100 [(Value.pointer (some ⟨en17_, 0, none⟩))] :: ro R :: cl en17_ 216 [(Value.pointer (some ⟨pw18_, 0, none⟩)), (Value.pointer (some ⟨cb19_, 0, none⟩)), (Value.slice (some ⟨ub20_, 0, none⟩) 8 8)] :: cl cb19_ 244 [(Value.int .u32 (wsm prev (wgood (List.take k L))))] :: cl ub20_ 5 [c0, c1, c2, c3, c4, c5, c6, c7] :: cl pw18_ 255 [(Value.iface 95 (Value.pointer (some ⟨b3_, 0, none⟩))), (Value.int .i64 (po : Int)), (Value.int .i64 4096), (Value.int .i64 (pd.length : Int)), (Value.slice (some ⟨bb21_, 0, none⟩) 135168 135168), (Value.int .i64 131072)] :: cl bb21_ 5 (bytesV pd ++ junk) :: cl b10_ 100 [(Value.pointer (some ⟨en17_, 0, none⟩))] :: cl b3_ 97 [V] :: F) := H75_
      have S77_ := Same.trans S62_ S76_
      refine S_list0 (T_store1 (v := (Value.int .i64 x65_.type_)) rfl rfl z2 rfl H75_ 0 rfl (Nat.le_of_ble_eq_true (by rfl)) ?_)
      intro w78_ S80_ H79_
      replace H79_ : Holds w78_ (cl b73_ 2 [(Value.int .i64 x65_.type_)] :: cl b58_ 106 [(Value.pointer none), (Value.pointer none), (Value.slice none 0 0)] :: sl 5 1 V (List.length os) (bytesV os) :: cl b32_ 100 [(Value.pointer (some ⟨en17_, 0, none⟩))] :: ro R :: cl en17_ 216 [(Value.pointer (some ⟨pw18_, 0, none⟩)), (Value.pointer (some ⟨cb19_, 0, none⟩)), (Value.slice (some ⟨ub20_, 0, none⟩) 8 8)] :: cl cb19_ 244 [(Value.int .u32 (wsm prev (wgood (List.take k L))))] :: cl ub20_ 5 [c0, c1, c2, c3, c4, c5, c6, c7] :: cl pw18_ 255 [(Value.iface 95 (Value.pointer (some ⟨b3_, 0, none⟩))), (Value.int .i64 (po : Int)), (Value.int .i64 4096), (Value.int .i64 (pd.length : Int)), (Value.slice (some ⟨bb21_, 0, none⟩) 135168 135168), (Value.int .i64 131072)] :: cl bb21_ 5 (bytesV pd ++ junk) :: cl b10_ 100 [(Value.pointer (some ⟨en17_, 0, none⟩))] :: cl b3_ 97 [V] :: F) := H79_
      have S81_ := Same.trans S77_ S80_
      refine wpList_nil ?_
      refine (X_then (hK72_ _ _ ?_))
      clear hK72_
      refine C_reg ?_
      refine S_list (T_val (v := (Value.pointer (some ⟨b58_, 0, none⟩))) (x_move rfl) ?_)
      refine S_list (T_val (v := (Value.pointer (some ⟨b58_, 0, none⟩))) (by kernel_rfl) ?_)
      refine S_list (T_val (v := (Value.pointer (some ⟨b58_, 0, none⟩))) (by kernel_rfl) ?_)
      refine S_list0 (T_store1 (v := (Value.pointer (some ⟨b73_, 0, none⟩))) rfl rfl z103 rfl H79_ 1 rfl (Nat.le_of_ble_eq_true (by rfl)) ?_)
      intro w82_ S84_ H83_
      replace H83_ : Holds w82_ (cl b73_ 2 [(Value.int .i64 x65_.type_)] :: cl b58_ 106 [(Value.pointer (some ⟨b73_, 0, none⟩)), (Value.pointer none), (Value.slice none 0 0)] :: sl 5 1 V (List.length os) (bytesV os) :: cl b32_ 100 [(Value.pointer (some ⟨en17_, 0, none⟩))] :: ro R :: cl en17_ 216 [(Value.pointer (some ⟨pw18_, 0, none⟩)), (Value.pointer (some ⟨cb19_, 0, none⟩)), (Value.slice (some ⟨ub20_, 0, none⟩) 8 8)] :: cl cb19_ 244 [(Value.int .u32 (wsm prev (wgood (List.take k L))))] :: cl ub20_ 5 [c0, c1, c2, c3, c4, c5, c6, c7] :: cl pw18_ 255 [(Value.iface 95 (Value.pointer (some ⟨b3_, 0, none⟩))), (Value.int .i64 (po : Int)), (Value.int .i64 4096), (Value.int .i64 (pd.length : Int)), (Value.slice (some ⟨bb21_, 0, none⟩) 135168 135168), (Value.int .i64 131072)] :: cl bb21_ 5 (bytesV pd ++ junk) :: cl b10_ 100 [(Value.pointer (some ⟨en17_, 0, none⟩))] :: cl b3_ 97 [V] :: F) := H83_
      have S85_ := Same.trans S81_ S84_
      refine wpList_nil ?_
      refine (X_then (hK63_ _ _ ?_))
      clear hK63_
      refine C_seq (fun K86_ hK86_ => ?_)
      refine C_seq (fun K87_ hK87_ => ?_)
      refine C_reg ?_
      refine S_list (T_val (v := rv) (x_move rfl) ?_)
      refine S_list (T_val (v := (Value.int .i64 (k : Int))) (x_move rfl) ?_)
      refine S_list (T_val (v := (Value.pointer (some ⟨(sb rv), so rv + (k * 6 + 0), none⟩))) (x_idxRS (v := rv) rfl hL rfl Try.underlying49 z63 (by omega) (by omega) (by omega : _ = k) rfl) ?_)
      refine S_list (T_val (v := (Value.pointer (some ⟨(sb rv), so rv + (k * 6 + 5), none⟩))) (by kernel_rfl) ?_)
      refine S_list (T_val (v := (Value.bool x65_.hasData)) (x_load1 rfl Try.underlying4 rfl (RC.cell (RS.rc hL) (Holds.ro_at H83_ 4 rfl) (j := k * 6 + 5) (u := (Value.bool x65_.hasData)) (fm_cell WR.len hx66_ (i := 5) rfl))) ?_)
      refine wpList_nil ?_
      refine (X_then (hK87_ _ _ ?_))
      clear hK87_
      refine C_cond (b := x65_.hasData) rfl (fun c88_t => ?_) (fun c88_f => ?_)
      · skip
        refine C_reg ?_
        refine S_list (T_val (v := (Value.pointer (some ⟨b58_, 0, none⟩))) (x_move rfl) ?_)
        refine S_list (T_val (v := rv) (x_move rfl) ?_)
        refine S_list (T_val (v := (Value.int .i64 (k : Int))) (x_move rfl) ?_)
        refine S_list (T_val (v := (Value.pointer (some ⟨(sb rv), so rv + (k * 6 + 0), none⟩))) (x_idxRS (v := rv) rfl hL rfl Try.underlying49 z63 (by omega) (by omega) (by omega : _ = k) rfl) ?_)
        refine S_list (T_val (v := (Value.pointer (some ⟨(sb rv), so rv + (k * 6 + 4), none⟩))) (by kernel_rfl) ?_)
        refine S_list (T_val (v := (Value.string x65_.data)) (x_load1 rfl Try.underlying9 rfl (RC.cell (RS.rc hL) (Holds.ro_at H83_ 4 rfl) (j := k * 6 + 4) (u := (Value.string x65_.data)) (fm_cell WR.len hx66_ (i := 4) rfl))) ?_)
        refine S_list (T_s2b rfl Try.underlying9 Try.underlying43 Try.underlying5 H83_ ?_)
        intro b89_ cp90_ w91_ S93_ hc94_ H92_
        have S95_ := Same.trans S85_ S93_
        have H96_ : Holds w91_ (sl 5 1 (Value.slice (some ⟨b89_, 0, none⟩) x65_.data.size cp90_) x65_.data.size (bytesV (ints x65_.data)) :: cl b73_ 2 [(Value.int .i64 x65_.type_)] :: cl b58_ 106 [(Value.pointer (some ⟨b73_, 0, none⟩)), (Value.pointer none), (Value.slice none 0 0)] :: sl 5 1 V (List.length os) (bytesV os) :: cl b32_ 100 [(Value.pointer (some ⟨en17_, 0, none⟩))] :: ro R :: cl en17_ 216 [(Value.pointer (some ⟨pw18_, 0, none⟩)), (Value.pointer (some ⟨cb19_, 0, none⟩)), (Value.slice (some ⟨ub20_, 0, none⟩) 8 8)] :: cl cb19_ 244 [(Value.int .u32 (wsm prev (wgood (List.take k L))))] :: cl ub20_ 5 [c0, c1, c2, c3, c4, c5, c6, c7] :: cl pw18_ 255 [(Value.iface 95 (Value.pointer (some ⟨b3_, 0, none⟩))), (Value.int .i64 (po : Int)), (Value.int .i64 4096), (Value.int .i64 (pd.length : Int)), (Value.slice (some ⟨bb21_, 0, none⟩) 135168 135168), (Value.int .i64 131072)] :: cl bb21_ 5 (bytesV pd ++ junk) :: cl b10_ 100 [(Value.pointer (some ⟨en17_, 0, none⟩))] :: cl b3_ 97 [V] :: F) := cast2 (P := fun (c__ : List Value) (k__ : Nat) => Holds w91_ (sl 5 1 (Value.slice (some ⟨b89_, 0, none⟩) x65_.data.size cp90_) k__ c__ :: cl b73_ 2 [(Value.int .i64 x65_.type_)] :: cl b58_ 106 [(Value.pointer (some ⟨b73_, 0, none⟩)), (Value.pointer none), (Value.slice none 0 0)] :: sl 5 1 V (List.length os) (bytesV os) :: cl b32_ 100 [(Value.pointer (some ⟨en17_, 0, none⟩))] :: ro R :: cl en17_ 216 [(Value.pointer (some ⟨pw18_, 0, none⟩)), (Value.pointer (some ⟨cb19_, 0, none⟩)), (Value.slice (some ⟨ub20_, 0, none⟩) 8 8)] :: cl cb19_ 244 [(Value.int .u32 (wsm prev (wgood (List.take k L))))] :: cl ub20_ 5 [c0, c1, c2, c3, c4, c5, c6, c7] :: cl pw18_ 255 [(Value.iface 95 (Value.pointer (some ⟨b3_, 0, none⟩))), (Value.int .i64 (po : Int)), (Value.int .i64 4096), (Value.int .i64 (pd.length : Int)), (Value.slice (some ⟨bb21_, 0, none⟩) 135168 135168), (Value.int .i64 131072)] :: cl bb21_ 5 (bytesV pd ++ junk) :: cl b10_ 100 [(Value.pointer (some ⟨en17_, 0, none⟩))] :: cl b3_ 97 [V] :: F)) (byteCells_bytesV _ : byteCells x65_.data = bytesV (ints x65_.data)) (rfl : x65_.data.size = x65_.data.size) H92_
        have H97_ : Holds w91_ (sl 5 1 (Value.slice (some ⟨b89_, 0, none⟩) x65_.data.size cp90_) (List.length (ints x65_.data)) (bytesV (ints x65_.data)) :: cl b73_ 2 [(Value.int .i64 x65_.type_)] :: cl b58_ 106 [(Value.pointer (some ⟨b73_, 0, none⟩)), (Value.pointer none), (Value.slice none 0 0)] :: sl 5 1 V (List.length os) (bytesV os) :: cl b32_ 100 [(Value.pointer (some ⟨en17_, 0, none⟩))] :: ro R :: cl en17_ 216 [(Value.pointer (some ⟨pw18_, 0, none⟩)), (Value.pointer (some ⟨cb19_, 0, none⟩)), (Value.slice (some ⟨ub20_, 0, none⟩) 8 8)] :: cl cb19_ 244 [(Value.int .u32 (wsm prev (wgood (List.take k L))))] :: cl ub20_ 5 [c0, c1, c2, c3, c4, c5, c6, c7] :: cl pw18_ 255 [(Value.iface 95 (Value.pointer (some ⟨b3_, 0, none⟩))), (Value.int .i64 (po : Int)), (Value.int .i64 4096), (Value.int .i64 (pd.length : Int)), (Value.slice (some ⟨bb21_, 0, none⟩) 135168 135168), (Value.int .i64 131072)] :: cl bb21_ 5 (bytesV pd ++ junk) :: cl b10_ 100 [(Value.pointer (some ⟨en17_, 0, none⟩))] :: cl b3_ 97 [V] :: F) := cast2 (P := fun (c__ : List Value) (k__ : Nat) => Holds w91_ (sl 5 1 (Value.slice (some ⟨b89_, 0, none⟩) x65_.data.size cp90_) k__ c__ :: cl b73_ 2 [(Value.int .i64 x65_.type_)] :: cl b58_ 106 [(Value.pointer (some ⟨b73_, 0, none⟩)), (Value.pointer none), (Value.slice none 0 0)] :: sl 5 1 V (List.length os) (bytesV os) :: cl b32_ 100 [(Value.pointer (some ⟨en17_, 0, none⟩))] :: ro R :: cl en17_ 216 [(Value.pointer (some ⟨pw18_, 0, none⟩)), (Value.pointer (some ⟨cb19_, 0, none⟩)), (Value.slice (some ⟨ub20_, 0, none⟩) 8 8)] :: cl cb19_ 244 [(Value.int .u32 (wsm prev (wgood (List.take k L))))] :: cl ub20_ 5 [c0, c1, c2, c3, c4, c5, c6, c7] :: cl pw18_ 255 [(Value.iface 95 (Value.pointer (some ⟨b3_, 0, none⟩))), (Value.int .i64 (po : Int)), (Value.int .i64 4096), (Value.int .i64 (pd.length : Int)), (Value.slice (some ⟨bb21_, 0, none⟩) 135168 135168), (Value.int .i64 131072)] :: cl bb21_ 5 (bytesV pd ++ junk) :: cl b10_ 100 [(Value.pointer (some ⟨en17_, 0, none⟩))] :: cl b3_ 97 [V] :: F)) (rfl : bytesV (ints x65_.data) = bytesV (ints x65_.data)) ((ints_length _).symm : x65_.data.size = (List.length (ints x65_.data))) H96_
        refine S_list (T_val (v := (Value.pointer (some ⟨b58_, 0, none⟩))) (by kernel_rfl) ?_)
        refine S_list (T_val (v := (Value.pointer (some ⟨b58_, 2, none⟩))) (by kernel_rfl) ?_)
        refine S_list0 (T_store1 (v := (Value.slice (some ⟨b89_, 0, none⟩) x65_.data.size cp90_)) rfl rfl z43 rfl H97_ 2 rfl (Nat.le_of_ble_eq_true (by rfl)) ?_)
        intro w98_ S100_ H99_
        replace H99_ : Holds w98_ (sl 5 1 (Value.slice (some ⟨b89_, 0, none⟩) x65_.data.size cp90_) (List.length (ints x65_.data)) (bytesV (ints x65_.data)) :: cl b73_ 2 [(Value.int .i64 x65_.type_)] :: cl b58_ 106 [(Value.pointer (some ⟨b73_, 0, none⟩)), (Value.pointer none), (Value.slice (some ⟨b89_, 0, none⟩) x65_.data.size cp90_)] :: sl 5 1 V (List.length os) (bytesV os) :: cl b32_ 100 [(Value.pointer (some ⟨en17_, 0, none⟩))] :: ro R :: cl en17_ 216 [(Value.pointer (some ⟨pw18_, 0, none⟩)), (Value.pointer (some ⟨cb19_, 0, none⟩)), (Value.slice (some ⟨ub20_, 0, none⟩) 8 8)] :: cl cb19_ 244 [(Value.int .u32 (wsm prev (wgood (List.take k L))))] :: cl ub20_ 5 [c0, c1, c2, c3, c4, c5, c6, c7] :: cl pw18_ 255 [(Value.iface 95 (Value.pointer (some ⟨b3_, 0, none⟩))), (Value.int .i64 (po : Int)), (Value.int .i64 4096), (Value.int .i64 (pd.length : Int)), (Value.slice (some ⟨bb21_, 0, none⟩) 135168 135168), (Value.int .i64 131072)] :: cl bb21_ 5 (bytesV pd ++ junk) :: cl b10_ 100 [(Value.pointer (some ⟨en17_, 0, none⟩))] :: cl b3_ 97 [V] :: F) := H99_
        have S101_ := Same.trans S95_ S100_
        refine wpList_nil ?_
        refine (X_then (hK86_ _ _ ?_))
        clear hK86_
        refine C_seq (fun K102_ hK102_ => ?_)
        refine C_reg ?_
        refine S_list (T_val (v := (Value.agg #[(Value.pointer (some ⟨en17_, 0, none⟩))])) (x_loadN (vs := [(Value.pointer (some ⟨en17_, 0, none⟩))]) rfl Try.underlying100 rfl z100 rfl (Rd.cells (Holds.rd H99_ 4 rfl) 0 rfl)) ?_)
        refine S_list (T_val (v := (Value.pointer (some ⟨b58_, 0, none⟩))) (x_move rfl) ?_)
        refine S_list (T_callW (al := [(Value.agg #[(Value.pointer (some ⟨en17_, 0, none⟩))]), (Value.pointer (some ⟨b58_, 0, none⟩))]) rfl rfl cb46 (Calls.into (n := 9) (al := [(Value.agg #[(Value.pointer (some ⟨en17_, 0, none⟩))]), (Value.pointer (some ⟨b58_, 0, none⟩))]) Try.func46 rfl Try.ntmps46 rfl rfl ?_))
        refine C_seq (fun K103_ hK103_ => ?_)
        refine C_reg ?_
        refine S_list (T_box (v := (Value.agg #[(Value.pointer (some ⟨en17_, 0, none⟩))])) rfl H99_ ?_)
        intro b104_ w105_ S107_ H106_
        replace H106_ : Holds w105_ (cl b104_ 100 [(Value.pointer (some ⟨en17_, 0, none⟩))] :: sl 5 1 (Value.slice (some ⟨b89_, 0, none⟩) x65_.data.size cp90_) (List.length (ints x65_.data)) (bytesV (ints x65_.data)) :: cl b73_ 2 [(Value.int .i64 x65_.type_)] :: cl b58_ 106 [(Value.pointer (some ⟨b73_, 0, none⟩)), (Value.pointer none), (Value.slice (some ⟨b89_, 0, none⟩) x65_.data.size cp90_)] :: sl 5 1 V (List.length os) (bytesV os) :: cl b32_ 100 [(Value.pointer (some ⟨en17_, 0, none⟩))] :: ro R :: cl en17_ 216 [(Value.pointer (some ⟨pw18_, 0, none⟩)), (Value.pointer (some ⟨cb19_, 0, none⟩)), (Value.slice (some ⟨ub20_, 0, none⟩) 8 8)] :: cl cb19_ 244 [(Value.int .u32 (wsm prev (wgood (List.take k L))))] :: cl ub20_ 5 [c0, c1, c2, c3, c4, c5, c6, c7] :: cl pw18_ 255 [(Value.iface 95 (Value.pointer (some ⟨b3_, 0, none⟩))), (Value.int .i64 (po : Int)), (Value.int .i64 4096), (Value.int .i64 (pd.length : Int)), (Value.slice (some ⟨bb21_, 0, none⟩) 135168 135168), (Value.int .i64 131072)] :: cl bb21_ 5 (bytesV pd ++ junk) :: cl b10_ 100 [(Value.pointer (some ⟨en17_, 0, none⟩))] :: cl b3_ 97 [V] :: F) := H106_
        have S108_ := Same.trans S101_ S107_
        refine S_list (T_val (v := (Value.nilIface)) (x_assign rfl) ?_)
        refine wpList_nil ?_
        refine (X_then (hK103_ _ _ ?_))
        clear hK103_
        refine C_seq (fun K109_ hK109_ => ?_)
        refine C_reg ?_
        refine S_list (T_val (v := (Value.pointer (some ⟨b104_, 0, none⟩))) (by kernel_rfl) ?_)
        refine S_list (T_val (v := (Value.pointer (some ⟨en17_, 0, none⟩))) (x_load1 rfl Try.underlying98 rfl ((Holds.rd H106_ 0 rfl) 0 (Value.pointer (some ⟨en17_, 0, none⟩)) rfl)) ?_)
        refine S_list (T_val (v := (Value.pointer (some ⟨b58_, 0, none⟩))) (x_move rfl) ?_)
        have H110_ : Holds w105_ (cl b104_ 100 [(Value.pointer (some ⟨en17_, 0, none⟩))] :: sl 5 1 (Value.slice (some ⟨b89_, 0, none⟩) x65_.data.size cp90_) (List.length (ints x65_.data)) (bytesV (ints x65_.data)) :: cl b73_ 2 [(Value.int .i64 x65_.type_)] :: cl b58_ 106 [(Value.pointer (some ⟨b73_, 0, none⟩)), (Value.pointer none), (Value.slice (some ⟨b89_, 0, none⟩) ((ints x65_.data).length) cp90_)] :: sl 5 1 V (List.length os) (bytesV os) :: cl b32_ 100 [(Value.pointer (some ⟨en17_, 0, none⟩))] :: ro R :: cl en17_ 216 [(Value.pointer (some ⟨pw18_, 0, none⟩)), (Value.pointer (some ⟨cb19_, 0, none⟩)), (Value.slice (some ⟨ub20_, 0, none⟩) 8 8)] :: cl cb19_ 244 [(Value.int .u32 (wsm prev (wgood (List.take k L))))] :: cl ub20_ 5 [c0, c1, c2, c3, c4, c5, c6, c7] :: cl pw18_ 255 [(Value.iface 95 (Value.pointer (some ⟨b3_, 0, none⟩))), (Value.int .i64 (po : Int)), (Value.int .i64 4096), (Value.int .i64 (pd.length : Int)), (Value.slice (some ⟨bb21_, 0, none⟩) 135168 135168), (Value.int .i64 131072)] :: cl bb21_ 5 (bytesV pd ++ junk) :: cl b10_ 100 [(Value.pointer (some ⟨en17_, 0, none⟩))] :: cl b3_ 97 [V] :: F) := cast1 (P := fun (c__ : List Value) => Holds w105_ (cl b104_ 100 [(Value.pointer (some ⟨en17_, 0, none⟩))] :: sl 5 1 (Value.slice (some ⟨b89_, 0, none⟩) x65_.data.size cp90_) (List.length (ints x65_.data)) (bytesV (ints x65_.data)) :: cl b73_ 2 [(Value.int .i64 x65_.type_)] :: cl b58_ 106 c__ :: sl 5 1 V (List.length os) (bytesV os) :: cl b32_ 100 [(Value.pointer (some ⟨en17_, 0, none⟩))] :: ro R :: cl en17_ 216 [(Value.pointer (some ⟨pw18_, 0, none⟩)), (Value.pointer (some ⟨cb19_, 0, none⟩)), (Value.slice (some ⟨ub20_, 0, none⟩) 8 8)] :: cl cb19_ 244 [(Value.int .u32 (wsm prev (wgood (List.take k L))))] :: cl ub20_ 5 [c0, c1, c2, c3, c4, c5, c6, c7] :: cl pw18_ 255 [(Value.iface 95 (Value.pointer (some ⟨b3_, 0, none⟩))), (Value.int .i64 (po : Int)), (Value.int .i64 4096), (Value.int .i64 (pd.length : Int)), (Value.slice (some ⟨bb21_, 0, none⟩) 135168 135168), (Value.int .i64 131072)] :: cl bb21_ 5 (bytesV pd ++ junk) :: cl b10_ 100 [(Value.pointer (some ⟨en17_, 0, none⟩))] :: cl b3_ 97 [V] :: F)) ((lcons rfl (lcons rfl (lcons (sl_eq (ints_length _).symm rfl) rfl))) : [(Value.pointer (some ⟨b73_, 0, none⟩)), (Value.pointer none), (Value.slice (some ⟨b89_, 0, none⟩) x65_.data.size cp90_)] = [(Value.pointer (some ⟨b73_, 0, none⟩)), (Value.pointer none), (Value.slice (some ⟨b89_, 0, none⟩) ((ints x65_.data).length) cp90_)]) H106_
        have H129_ : Holds w105_ (ro R :: sl 5 1 (Value.slice (some ⟨b89_, 0, none⟩) x65_.data.size cp90_) (List.length (ints x65_.data)) (bytesV (ints x65_.data)) :: cl en17_ 216 [(Value.pointer (some ⟨pw18_, 0, none⟩)), (Value.pointer (some ⟨cb19_, 0, none⟩)), (Value.slice (some ⟨ub20_, 0, none⟩) 8 8)] :: cl cb19_ 244 [(Value.int .u32 (wsm prev (wgood (List.take k L))))] :: cl ub20_ 5 [c0, c1, c2, c3, c4, c5, c6, c7] :: cl b58_ 106 [(Value.pointer (some ⟨b73_, 0, none⟩)), (Value.pointer none), (Value.slice (some ⟨b89_, 0, none⟩) ((ints x65_.data).length) cp90_)] :: cl b73_ 2 [(Value.int .i64 x65_.type_)] :: cl pw18_ 255 [(Value.iface 95 (Value.pointer (some ⟨b3_, 0, none⟩))), (Value.int .i64 (po : Int)), (Value.int .i64 4096), (Value.int .i64 (pd.length : Int)), (Value.slice (some ⟨bb21_, 0, none⟩) 135168 135168), (Value.int .i64 131072)] :: cl bb21_ 5 (bytesV pd ++ junk) :: cl b3_ 97 [V] :: sl 5 1 V (List.length os) (bytesV os) :: cl b104_ 100 [(Value.pointer (some ⟨en17_, 0, none⟩))] :: cl b32_ 100 [(Value.pointer (some ⟨en17_, 0, none⟩))] :: cl b10_ 100 [(Value.pointer (some ⟨en17_, 0, none⟩))] :: F) := (Holds.bring (Holds.bring (Holds.bring (Holds.bring (Holds.bring (Holds.bring (Holds.bring (Holds.bring (Holds.bring (Holds.bring (Holds.bring H110_ 4 rfl) 13 rfl) 12 rfl) 12 rfl) 6 rfl) 7 rfl) 12 rfl) 12 rfl) 12 rfl) 10 rfl) 12 rfl)
        refine S_list (T_call (al := [(Value.pointer (some ⟨en17_, 0, none⟩)), (Value.pointer (some ⟨b58_, 0, none⟩))]) (pre := [sl 5 1 (Value.slice (some ⟨b89_, 0, none⟩) x65_.data.size cp90_) (List.length (ints x65_.data)) (bytesV (ints x65_.data)), cl en17_ 216 [(Value.pointer (some ⟨pw18_, 0, none⟩)), (Value.pointer (some ⟨cb19_, 0, none⟩)), (Value.slice (some ⟨ub20_, 0, none⟩) 8 8)], cl cb19_ 244 [(Value.int .u32 (wsm prev (wgood (List.take k L))))], cl ub20_ 5 [c0, c1, c2, c3, c4, c5, c6, c7], cl b58_ 106 [(Value.pointer (some ⟨b73_, 0, none⟩)), (Value.pointer none), (Value.slice (some ⟨b89_, 0, none⟩) ((ints x65_.data).length) cp90_)], cl b73_ 2 [(Value.int .i64 x65_.type_)], cl pw18_ 255 [(Value.iface 95 (Value.pointer (some ⟨b3_, 0, none⟩))), (Value.int .i64 (po : Int)), (Value.int .i64 4096), (Value.int .i64 (pd.length : Int)), (Value.slice (some ⟨bb21_, 0, none⟩) 135168 135168), (Value.int .i64 131072)], cl bb21_ 5 (bytesV pd ++ junk), cl b3_ 97 [V], sl 5 1 V (List.length os) (bytesV os)]) (F := cl b104_ 100 [(Value.pointer (some ⟨en17_, 0, none⟩))] :: cl b32_ 100 [(Value.pointer (some ⟨en17_, 0, none⟩))] :: cl b10_ 100 [(Value.pointer (some ⟨en17_, 0, none⟩))] :: F) rfl rfl cb75 (Tri.lend (fun h0__ a0__ d0__ => wEncSome (un R h0__) en17_ cb19_ ub20_ b58_ b73_ (wsm prev (wgood (List.take k L))) x65_.type_ c0 c1 c2 c3 c4 c5 c6 c7 pw18_ bb21_ b3_ po pd junk V os b89_ cp90_ (ints x65_.data) (RS.set_ (cast1 (P := fun v__ => RS _ 1 v__ _ _) (congrArg (fun k__ => Value.slice (some ⟨b89_, 0, none⟩) k__ cp90_) (ints_length _).symm) (sl_RS a0__ (Sub.un_right d0__))) rfl (by first | rfl | omega | (simp; done) | (simp; omega))) (by rw [ints_length]; omega) (by first | assumption | omega) (by first | assumption | omega) (by first | assumption | omega) (by first | assumption | omega))) H129_ ?_)
        rintro v111_ p133_ w130_ ⟨_, rfl, ⟨c0112_, c1113_, c2114_, c3115_, c4116_, c5117_, c6118_, c7119_, po120_, pd121_, junk122_, V123_, os124_, rfl, rfl, he125_, he126_, he127_, he128_⟩⟩ S132_ H131_
        replace H131_ : Holds w130_ (ro R :: sl 5 1 (Value.slice (some ⟨b89_, 0, none⟩) x65_.data.size cp90_) (List.length (ints x65_.data)) (bytesV (ints x65_.data)) :: cl en17_ 216 [(Value.pointer (some ⟨pw18_, 0, none⟩)), (Value.pointer (some ⟨cb19_, 0, none⟩)), (Value.slice (some ⟨ub20_, 0, none⟩) 8 8)] :: cl cb19_ 244 [(Value.int .u32 (crc (wsm prev (wgood (List.take k L))) (ints x65_.data)))] :: cl ub20_ 5 [c0112_, c1113_, c2114_, c3115_, c4116_, c5117_, c6118_, c7119_] :: cl pw18_ 255 [(Value.iface 95 (Value.pointer (some ⟨b3_, 0, none⟩))), (Value.int .i64 (po120_ : Int)), (Value.int .i64 4096), (Value.int .i64 (pd121_.length : Int)), (Value.slice (some ⟨bb21_, 0, none⟩) 135168 135168), (Value.int .i64 131072)] :: cl bb21_ 5 (bytesV pd121_ ++ junk122_) :: cl b3_ 97 [V123_] :: sl 5 1 V123_ (List.length os124_) (bytesV os124_) :: cl b104_ 100 [(Value.pointer (some ⟨en17_, 0, none⟩))] :: cl b32_ 100 [(Value.pointer (some ⟨en17_, 0, none⟩))] :: cl b10_ 100 [(Value.pointer (some ⟨en17_, 0, none⟩))] :: F) := H131_
        have S134_ := Same.trans S108_ S132_
        have hg70_g := hg70_ c71_t
        rw [wfr_has c88_t, show crc (wsm prev (wgood (List.take k L))) (ints x65_.data) = wnx (wsm prev (wgood (List.take k L))) x65_ from rfl] at he128_
        have hw_ := wfr_len (n := wnx (wsm prev (wgood (List.take k L))) x65_) hg70_g
        have hll_ := congrArg List.length he128_
        simp only [List.length_append] at hll_
        refine S_list (T_val (v := (Value.nilIface)) (x_assign rfl) ?_)
        refine wpList_nil ?_
        refine (X_then (hK109_ _ _ ?_))
        clear hK109_
        refine C_ret ?_
        refine R_any (v := (Value.nilIface)) (run_results1 rfl rfl) ⟨_, rfl, ?_⟩
        refine S_list (T_val (v := (Value.bool false)) (by kernel_rfl) ?_)
        refine wpList_nil ?_
        refine (X_then (hK102_ _ _ ?_))
        clear hK102_
        refine C_condF rfl ?_
        refine C_skip (X_blkN (X_then (hK56_ _ _ ?_)))
        clear hK56_
        refine C_reg ?_
        refine S_list (T_val (v := (Value.int .i64 (k : Int))) (x_move rfl) ?_)
        refine S_list (T_val (v := (Value.int .i64 ((k : Int) + 1))) (x_bin rfl rfl (ib_add (IntWalk.i64_in _ (by omega)))) ?_)
        refine S_list (T_val (v := (Value.int .i64 ((k : Int) + 1))) (x_assign rfl) ?_)
        refine wpList_nil ?_
        refine (X_then ?_)
        have H135_ : Holds w130_ (ro R :: sl 5 1 (Value.slice (some ⟨b89_, 0, none⟩) x65_.data.size cp90_) (List.length (ints x65_.data)) (bytesV (ints x65_.data)) :: cl en17_ 216 [(Value.pointer (some ⟨pw18_, 0, none⟩)), (Value.pointer (some ⟨cb19_, 0, none⟩)), (Value.slice (some ⟨ub20_, 0, none⟩) 8 8)] :: cl cb19_ 244 [(Value.int .u32 (wsm prev (wgood (List.take (k + 1) L))))] :: cl ub20_ 5 [c0112_, c1113_, c2114_, c3115_, c4116_, c5117_, c6118_, c7119_] :: cl pw18_ 255 [(Value.iface 95 (Value.pointer (some ⟨b3_, 0, none⟩))), (Value.int .i64 (po120_ : Int)), (Value.int .i64 4096), (Value.int .i64 (pd121_.length : Int)), (Value.slice (some ⟨bb21_, 0, none⟩) 135168 135168), (Value.int .i64 131072)] :: cl bb21_ 5 (bytesV pd121_ ++ junk122_) :: cl b3_ 97 [V123_] :: sl 5 1 V123_ (List.length os124_) (bytesV os124_) :: cl b104_ 100 [(Value.pointer (some ⟨en17_, 0, none⟩))] :: cl b32_ 100 [(Value.pointer (some ⟨en17_, 0, none⟩))] :: cl b10_ 100 [(Value.pointer (some ⟨en17_, 0, none⟩))] :: F) := cast1 (P := fun (c__ : List Value) => Holds w130_ (ro R :: sl 5 1 (Value.slice (some ⟨b89_, 0, none⟩) x65_.data.size cp90_) (List.length (ints x65_.data)) (bytesV (ints x65_.data)) :: cl en17_ 216 [(Value.pointer (some ⟨pw18_, 0, none⟩)), (Value.pointer (some ⟨cb19_, 0, none⟩)), (Value.slice (some ⟨ub20_, 0, none⟩) 8 8)] :: cl cb19_ 244 c__ :: cl ub20_ 5 [c0112_, c1113_, c2114_, c3115_, c4116_, c5117_, c6118_, c7119_] :: cl pw18_ 255 [(Value.iface 95 (Value.pointer (some ⟨b3_, 0, none⟩))), (Value.int .i64 (po120_ : Int)), (Value.int .i64 4096), (Value.int .i64 (pd121_.length : Int)), (Value.slice (some ⟨bb21_, 0, none⟩) 135168 135168), (Value.int .i64 131072)] :: cl bb21_ 5 (bytesV pd121_ ++ junk122_) :: cl b3_ 97 [V123_] :: sl 5 1 V123_ (List.length os124_) (bytesV os124_) :: cl b104_ 100 [(Value.pointer (some ⟨en17_, 0, none⟩))] :: cl b32_ 100 [(Value.pointer (some ⟨en17_, 0, none⟩))] :: cl b10_ 100 [(Value.pointer (some ⟨en17_, 0, none⟩))] :: F)) ((lcons (congrArg (Value.int .u32) ((by rw [wgood_yes hx66_ c71_t, wsm_snoc]; rfl) : crc (wsm prev (wgood (List.take k L))) (ints x65_.data) = wsm prev (wgood (List.take (k + 1) L)))) rfl) : [(Value.int .u32 (crc (wsm prev (wgood (List.take k L))) (ints x65_.data)))] = [(Value.int .u32 (wsm prev (wgood (List.take (k + 1) L))))]) H131_
        have H136_ : Holds w130_ (sl 5 1 V123_ (List.length os124_) (bytesV os124_) :: cl b32_ 100 [(Value.pointer (some ⟨en17_, 0, none⟩))] :: ro R :: cl en17_ 216 [(Value.pointer (some ⟨pw18_, 0, none⟩)), (Value.pointer (some ⟨cb19_, 0, none⟩)), (Value.slice (some ⟨ub20_, 0, none⟩) 8 8)] :: cl cb19_ 244 [(Value.int .u32 (wsm prev (wgood (List.take (k + 1) L))))] :: cl ub20_ 5 [c0112_, c1113_, c2114_, c3115_, c4116_, c5117_, c6118_, c7119_] :: cl pw18_ 255 [(Value.iface 95 (Value.pointer (some ⟨b3_, 0, none⟩))), (Value.int .i64 (po120_ : Int)), (Value.int .i64 4096), (Value.int .i64 (pd121_.length : Int)), (Value.slice (some ⟨bb21_, 0, none⟩) 135168 135168), (Value.int .i64 131072)] :: cl bb21_ 5 (bytesV pd121_ ++ junk122_) :: cl b10_ 100 [(Value.pointer (some ⟨en17_, 0, none⟩))] :: cl b3_ 97 [V123_] :: F) := (Holds.erase (Holds.erase (Holds.bring (Holds.bring (Holds.bring (Holds.bring (Holds.bring (Holds.bring (Holds.bring (Holds.bring (Holds.bring (Holds.bring H135_ 7 rfl) 11 rfl) 8 rfl) 8 rfl) 8 rfl) 8 rfl) 8 rfl) 7 rfl) 11 rfl) 10 rfl) 10) 10)
        exact ⟨⟨k + 1, po120_, pd121_, junk122_, V123_, os124_, c0112_, c1113_, c2114_, c3115_, c4116_, c5117_, c6118_, c7119_⟩, ⟨_, congrArg (fun e => mkA 70 e []) (ch (ch (ch (ch (ch (ch (ch rfl rfl) rfl) rfl) rfl) rfl) (congrArg (Value.int .i64) ((by rw [wbad_yes hx66_ c71_t]) : (wbad (List.take k L) : Int) = (wbad (List.take (k + 1) L) : Int)))) (congrArg (Value.int .i64) ((by first | rfl | omega | (simp; done) | (simp; omega)) : (k : Int) + 1 = ((k + 1 : Nat) : Int)))), H136_, S134_, (by rw [he128_, hos, wgood_yes hx66_ c71_t, wfs_snoc, List.flatten_append]; simp), (by first | assumption | omega | exact rfl), (by first | assumption | omega | exact rfl), (by first | assumption | omega | exact rfl), (by first | assumption | omega | exact rfl), (by first | assumption | omega | exact rfl)⟩, by first | omega | (dsimp only; omega) | (simp; omega)⟩
      · skip
        refine C_skip (X_then (hK86_ _ _ ?_))
        clear hK86_
        refine C_seq (fun K137_ hK137_ => ?_)
        refine C_reg ?_
        refine S_list (T_val (v := (Value.agg #[(Value.pointer (some ⟨en17_, 0, none⟩))])) (x_loadN (vs := [(Value.pointer (some ⟨en17_, 0, none⟩))]) rfl Try.underlying100 rfl z100 rfl (Rd.cells (Holds.rd H83_ 3 rfl) 0 rfl)) ?_)
        refine S_list (T_val (v := (Value.pointer (some ⟨b58_, 0, none⟩))) (x_move rfl) ?_)
        refine S_list (T_callW (al := [(Value.agg #[(Value.pointer (some ⟨en17_, 0, none⟩))]), (Value.pointer (some ⟨b58_, 0, none⟩))]) rfl rfl cb46 (Calls.into (n := 9) (al := [(Value.agg #[(Value.pointer (some ⟨en17_, 0, none⟩))]), (Value.pointer (some ⟨b58_, 0, none⟩))]) Try.func46 rfl Try.ntmps46 rfl rfl ?_))
        refine C_seq (fun K138_ hK138_ => ?_)
        refine C_reg ?_
        refine S_list (T_box (v := (Value.agg #[(Value.pointer (some ⟨en17_, 0, none⟩))])) rfl H83_ ?_)
        intro b139_ w140_ S142_ H141_
        replace H141_ : Holds w140_ (cl b139_ 100 [(Value.pointer (some ⟨en17_, 0, none⟩))] :: cl b73_ 2 [(Value.int .i64 x65_.type_)] :: cl b58_ 106 [(Value.pointer (some ⟨b73_, 0, none⟩)), (Value.pointer none), (Value.slice none 0 0)] :: sl 5 1 V (List.length os) (bytesV os) :: cl b32_ 100 [(Value.pointer (some ⟨en17_, 0, none⟩))] :: ro R :: cl en17_ 216 [(Value.pointer (some ⟨pw18_, 0, none⟩)), (Value.pointer (some ⟨cb19_, 0, none⟩)), (Value.slice (some ⟨ub20_, 0, none⟩) 8 8)] :: cl cb19_ 244 [(Value.int .u32 (wsm prev (wgood (List.take k L))))] :: cl ub20_ 5 [c0, c1, c2, c3, c4, c5, c6, c7] :: cl pw18_ 255 [(Value.iface 95 (Value.pointer (some ⟨b3_, 0, none⟩))), (Value.int .i64 (po : Int)), (Value.int .i64 4096), (Value.int .i64 (pd.length : Int)), (Value.slice (some ⟨bb21_, 0, none⟩) 135168 135168), (Value.int .i64 131072)] :: cl bb21_ 5 (bytesV pd ++ junk) :: cl b10_ 100 [(Value.pointer (some ⟨en17_, 0, none⟩))] :: cl b3_ 97 [V] :: F) := H141_
        have S143_ := Same.trans S85_ S142_
        refine S_list (T_val (v := (Value.nilIface)) (x_assign rfl) ?_)
        refine wpList_nil ?_
        refine (X_then (hK138_ _ _ ?_))
        clear hK138_
        refine C_seq (fun K144_ hK144_ => ?_)
        refine C_reg ?_
        refine S_list (T_val (v := (Value.pointer (some ⟨b139_, 0, none⟩))) (by kernel_rfl) ?_)
        refine S_list (T_val (v := (Value.pointer (some ⟨en17_, 0, none⟩))) (x_load1 rfl Try.underlying98 rfl ((Holds.rd H141_ 0 rfl) 0 (Value.pointer (some ⟨en17_, 0, none⟩)) rfl)) ?_)
        refine S_list (T_val (v := (Value.pointer (some ⟨b58_, 0, none⟩))) (x_move rfl) ?_)
        have H163_ : Holds w140_ (ro R :: cl en17_ 216 [(Value.pointer (some ⟨pw18_, 0, none⟩)), (Value.pointer (some ⟨cb19_, 0, none⟩)), (Value.slice (some ⟨ub20_, 0, none⟩) 8 8)] :: cl cb19_ 244 [(Value.int .u32 (wsm prev (wgood (List.take k L))))] :: cl ub20_ 5 [c0, c1, c2, c3, c4, c5, c6, c7] :: cl b58_ 106 [(Value.pointer (some ⟨b73_, 0, none⟩)), (Value.pointer none), (Value.slice none 0 0)] :: cl b73_ 2 [(Value.int .i64 x65_.type_)] :: cl pw18_ 255 [(Value.iface 95 (Value.pointer (some ⟨b3_, 0, none⟩))), (Value.int .i64 (po : Int)), (Value.int .i64 4096), (Value.int .i64 (pd.length : Int)), (Value.slice (some ⟨bb21_, 0, none⟩) 135168 135168), (Value.int .i64 131072)] :: cl bb21_ 5 (bytesV pd ++ junk) :: cl b3_ 97 [V] :: sl 5 1 V (List.length os) (bytesV os) :: cl b139_ 100 [(Value.pointer (some ⟨en17_, 0, none⟩))] :: cl b32_ 100 [(Value.pointer (some ⟨en17_, 0, none⟩))] :: cl b10_ 100 [(Value.pointer (some ⟨en17_, 0, none⟩))] :: F) := (Holds.bring (Holds.bring (Holds.bring (Holds.bring (Holds.bring (Holds.bring (Holds.bring (Holds.bring (Holds.bring (Holds.bring H141_ 3 rfl) 12 rfl) 11 rfl) 11 rfl) 5 rfl) 6 rfl) 11 rfl) 11 rfl) 11 rfl) 11 rfl)
        refine S_list (T_call (al := [(Value.pointer (some ⟨en17_, 0, none⟩)), (Value.pointer (some ⟨b58_, 0, none⟩))]) (pre := [cl en17_ 216 [(Value.pointer (some ⟨pw18_, 0, none⟩)), (Value.pointer (some ⟨cb19_, 0, none⟩)), (Value.slice (some ⟨ub20_, 0, none⟩) 8 8)], cl cb19_ 244 [(Value.int .u32 (wsm prev (wgood (List.take k L))))], cl ub20_ 5 [c0, c1, c2, c3, c4, c5, c6, c7], cl b58_ 106 [(Value.pointer (some ⟨b73_, 0, none⟩)), (Value.pointer none), (Value.slice none 0 0)], cl b73_ 2 [(Value.int .i64 x65_.type_)], cl pw18_ 255 [(Value.iface 95 (Value.pointer (some ⟨b3_, 0, none⟩))), (Value.int .i64 (po : Int)), (Value.int .i64 4096), (Value.int .i64 (pd.length : Int)), (Value.slice (some ⟨bb21_, 0, none⟩) 135168 135168), (Value.int .i64 131072)], cl bb21_ 5 (bytesV pd ++ junk), cl b3_ 97 [V], sl 5 1 V (List.length os) (bytesV os)]) (F := cl b139_ 100 [(Value.pointer (some ⟨en17_, 0, none⟩))] :: cl b32_ 100 [(Value.pointer (some ⟨en17_, 0, none⟩))] :: cl b10_ 100 [(Value.pointer (some ⟨en17_, 0, none⟩))] :: F) rfl rfl cb75 (wEncNil R en17_ cb19_ ub20_ b58_ b73_ (wsm prev (wgood (List.take k L))) x65_.type_ c0 c1 c2 c3 c4 c5 c6 c7 pw18_ bb21_ b3_ po pd junk V os (by first | assumption | omega) (by first | assumption | omega) (by first | assumption | omega) (by first | assumption | omega)) H163_ ?_)
        rintro v145_ p167_ w164_ ⟨c0146_, c1147_, c2148_, c3149_, c4150_, c5151_, c6152_, c7153_, po154_, pd155_, junk156_, V157_, os158_, rfl, rfl, he159_, he160_, he161_, he162_⟩ S166_ H165_
        replace H165_ : Holds w164_ (ro R :: cl en17_ 216 [(Value.pointer (some ⟨pw18_, 0, none⟩)), (Value.pointer (some ⟨cb19_, 0, none⟩)), (Value.slice (some ⟨ub20_, 0, none⟩) 8 8)] :: cl cb19_ 244 [(Value.int .u32 (crc (wsm prev (wgood (List.take k L))) ([] : List Int)))] :: cl ub20_ 5 [c0146_, c1147_, c2148_, c3149_, c4150_, c5151_, c6152_, c7153_] :: cl pw18_ 255 [(Value.iface 95 (Value.pointer (some ⟨b3_, 0, none⟩))), (Value.int .i64 (po154_ : Int)), (Value.int .i64 4096), (Value.int .i64 (pd155_.length : Int)), (Value.slice (some ⟨bb21_, 0, none⟩) 135168 135168), (Value.int .i64 131072)] :: cl bb21_ 5 (bytesV pd155_ ++ junk156_) :: cl b3_ 97 [V157_] :: sl 5 1 V157_ (List.length os158_) (bytesV os158_) :: cl b139_ 100 [(Value.pointer (some ⟨en17_, 0, none⟩))] :: cl b32_ 100 [(Value.pointer (some ⟨en17_, 0, none⟩))] :: cl b10_ 100 [(Value.pointer (some ⟨en17_, 0, none⟩))] :: F) := H165_
        have S168_ := Same.trans S143_ S166_
        have hg70_g := hg70_ c71_t
        rw [wnx_none hg70_g c88_f, wfr_none hg70_g c88_f] at he162_
        have hw_ := wfr_len (n := wnx (wsm prev (wgood (List.take k L))) x65_) hg70_g
        have hll_ := congrArg List.length he162_
        simp only [List.length_append] at hll_
        refine S_list (T_val (v := (Value.nilIface)) (x_assign rfl) ?_)
        refine wpList_nil ?_
        refine (X_then (hK144_ _ _ ?_))
        clear hK144_
        refine C_ret ?_
        refine R_any (v := (Value.nilIface)) (run_results1 rfl rfl) ⟨_, rfl, ?_⟩
        refine S_list (T_val (v := (Value.bool false)) (by kernel_rfl) ?_)
        refine wpList_nil ?_
        refine (X_then (hK137_ _ _ ?_))
        clear hK137_
        refine C_condF rfl ?_
        refine C_skip (X_blkN (X_then (hK56_ _ _ ?_)))
        clear hK56_
        refine C_reg ?_
        refine S_list (T_val (v := (Value.int .i64 (k : Int))) (x_move rfl) ?_)
        refine S_list (T_val (v := (Value.int .i64 ((k : Int) + 1))) (x_bin rfl rfl (ib_add (IntWalk.i64_in _ (by omega)))) ?_)
        refine S_list (T_val (v := (Value.int .i64 ((k : Int) + 1))) (x_assign rfl) ?_)
        refine wpList_nil ?_
        refine (X_then ?_)
        have H169_ : Holds w164_ (ro R :: cl en17_ 216 [(Value.pointer (some ⟨pw18_, 0, none⟩)), (Value.pointer (some ⟨cb19_, 0, none⟩)), (Value.slice (some ⟨ub20_, 0, none⟩) 8 8)] :: cl cb19_ 244 [(Value.int .u32 (wsm prev (wgood (List.take (k + 1) L))))] :: cl ub20_ 5 [c0146_, c1147_, c2148_, c3149_, c4150_, c5151_, c6152_, c7153_] :: cl pw18_ 255 [(Value.iface 95 (Value.pointer (some ⟨b3_, 0, none⟩))), (Value.int .i64 (po154_ : Int)), (Value.int .i64 4096), (Value.int .i64 (pd155_.length : Int)), (Value.slice (some ⟨bb21_, 0, none⟩) 135168 135168), (Value.int .i64 131072)] :: cl bb21_ 5 (bytesV pd155_ ++ junk156_) :: cl b3_ 97 [V157_] :: sl 5 1 V157_ (List.length os158_) (bytesV os158_) :: cl b139_ 100 [(Value.pointer (some ⟨en17_, 0, none⟩))] :: cl b32_ 100 [(Value.pointer (some ⟨en17_, 0, none⟩))] :: cl b10_ 100 [(Value.pointer (some ⟨en17_, 0, none⟩))] :: F) := cast1 (P := fun (c__ : List Value) => Holds w164_ (ro R :: cl en17_ 216 [(Value.pointer (some ⟨pw18_, 0, none⟩)), (Value.pointer (some ⟨cb19_, 0, none⟩)), (Value.slice (some ⟨ub20_, 0, none⟩) 8 8)] :: cl cb19_ 244 c__ :: cl ub20_ 5 [c0146_, c1147_, c2148_, c3149_, c4150_, c5151_, c6152_, c7153_] :: cl pw18_ 255 [(Value.iface 95 (Value.pointer (some ⟨b3_, 0, none⟩))), (Value.int .i64 (po154_ : Int)), (Value.int .i64 4096), (Value.int .i64 (pd155_.length : Int)), (Value.slice (some ⟨bb21_, 0, none⟩) 135168 135168), (Value.int .i64 131072)] :: cl bb21_ 5 (bytesV pd155_ ++ junk156_) :: cl b3_ 97 [V157_] :: sl 5 1 V157_ (List.length os158_) (bytesV os158_) :: cl b139_ 100 [(Value.pointer (some ⟨en17_, 0, none⟩))] :: cl b32_ 100 [(Value.pointer (some ⟨en17_, 0, none⟩))] :: cl b10_ 100 [(Value.pointer (some ⟨en17_, 0, none⟩))] :: F)) ((lcons (congrArg (Value.int .u32) ((by rw [wgood_yes hx66_ c71_t, wsm_snoc, wnx_none hg70_g c88_f]) : crc (wsm prev (wgood (List.take k L))) ([] : List Int) = wsm prev (wgood (List.take (k + 1) L)))) rfl) : [(Value.int .u32 (crc (wsm prev (wgood (List.take k L))) ([] : List Int)))] = [(Value.int .u32 (wsm prev (wgood (List.take (k + 1) L))))]) H165_
        have H170_ : Holds w164_ (sl 5 1 V157_ (List.length os158_) (bytesV os158_) :: cl b32_ 100 [(Value.pointer (some ⟨en17_, 0, none⟩))] :: ro R :: cl en17_ 216 [(Value.pointer (some ⟨pw18_, 0, none⟩)), (Value.pointer (some ⟨cb19_, 0, none⟩)), (Value.slice (some ⟨ub20_, 0, none⟩) 8 8)] :: cl cb19_ 244 [(Value.int .u32 (wsm prev (wgood (List.take (k + 1) L))))] :: cl ub20_ 5 [c0146_, c1147_, c2148_, c3149_, c4150_, c5151_, c6152_, c7153_] :: cl pw18_ 255 [(Value.iface 95 (Value.pointer (some ⟨b3_, 0, none⟩))), (Value.int .i64 (po154_ : Int)), (Value.int .i64 4096), (Value.int .i64 (pd155_.length : Int)), (Value.slice (some ⟨bb21_, 0, none⟩) 135168 135168), (Value.int .i64 131072)] :: cl bb21_ 5 (bytesV pd155_ ++ junk156_) :: cl b10_ 100 [(Value.pointer (some ⟨en17_, 0, none⟩))] :: cl b3_ 97 [V157_] :: F) := (Holds.erase (Holds.bring (Holds.bring (Holds.bring (Holds.bring (Holds.bring (Holds.bring (Holds.bring (Holds.bring (Holds.bring (Holds.bring H169_ 6 rfl) 10 rfl) 7 rfl) 7 rfl) 7 rfl) 7 rfl) 7 rfl) 7 rfl) 10 rfl) 9 rfl) 10)
        exact ⟨⟨k + 1, po154_, pd155_, junk156_, V157_, os158_, c0146_, c1147_, c2148_, c3149_, c4150_, c5151_, c6152_, c7153_⟩, ⟨_, congrArg (fun e => mkA 70 e []) (ch (ch (ch (ch (ch (ch (ch rfl rfl) rfl) rfl) rfl) rfl) (congrArg (Value.int .i64) ((by rw [wbad_yes hx66_ c71_t]) : (wbad (List.take k L) : Int) = (wbad (List.take (k + 1) L) : Int)))) (congrArg (Value.int .i64) ((by first | rfl | omega | (simp; done) | (simp; omega)) : (k : Int) + 1 = ((k + 1 : Nat) : Int)))), H170_, S168_, (by rw [he162_, hos, wgood_yes hx66_ c71_t, wfs_snoc, List.flatten_append]; simp), (by first | assumption | omega | exact rfl), (by first | assumption | omega | exact rfl), (by first | assumption | omega | exact rfl), (by first | assumption | omega | exact rfl), (by first | assumption | omega | exact rfl)⟩, by first | omega | (dsimp only; omega) | (simp; omega)⟩
    · skip
      refine C_skip (X_then (hK63_ _ _ ?_))
      clear hK63_
      refine C_seq (fun K171_ hK171_ => ?_)
      refine C_seq (fun K172_ hK172_ => ?_)
      refine C_reg ?_
      refine S_list (T_val (v := rv) (x_move rfl) ?_)
      refine S_list (T_val (v := (Value.int .i64 (k : Int))) (x_move rfl) ?_)
      refine S_list (T_val (v := (Value.pointer (some ⟨(sb rv), so rv + (k * 6 + 0), none⟩))) (x_idxRS (v := rv) rfl hL rfl Try.underlying49 z63 (by omega) (by omega) (by omega : _ = k) rfl) ?_)
      refine S_list (T_val (v := (Value.pointer (some ⟨(sb rv), so rv + (k * 6 + 5), none⟩))) (by kernel_rfl) ?_)
      refine S_list (T_val (v := (Value.bool x65_.hasData)) (x_load1 rfl Try.underlying4 rfl (RC.cell (RS.rc hL) (Holds.ro_at H60_ 3 rfl) (j := k * 6 + 5) (u := (Value.bool x65_.hasData)) (fm_cell WR.len hx66_ (i := 5) rfl))) ?_)
      refine wpList_nil ?_
      refine (X_then (hK172_ _ _ ?_))
      clear hK172_
      refine C_cond (b := x65_.hasData) rfl (fun c173_t => ?_) (fun c173_f => ?_)
      · skip
        refine C_reg ?_
        refine S_list (T_val (v := (Value.pointer (some ⟨b58_, 0, none⟩))) (x_move rfl) ?_)
        refine S_list (T_val (v := rv) (x_move rfl) ?_)
        refine S_list (T_val (v := (Value.int .i64 (k : Int))) (x_move rfl) ?_)
        refine S_list (T_val (v := (Value.pointer (some ⟨(sb rv), so rv + (k * 6 + 0), none⟩))) (x_idxRS (v := rv) rfl hL rfl Try.underlying49 z63 (by omega) (by omega) (by omega : _ = k) rfl) ?_)
        refine S_list (T_val (v := (Value.pointer (some ⟨(sb rv), so rv + (k * 6 + 4), none⟩))) (by kernel_rfl) ?_)
        refine S_list (T_val (v := (Value.string x65_.data)) (x_load1 rfl Try.underlying9 rfl (RC.cell (RS.rc hL) (Holds.ro_at H60_ 3 rfl) (j := k * 6 + 4) (u := (Value.string x65_.data)) (fm_cell WR.len hx66_ (i := 4) rfl))) ?_)
        refine S_list (T_s2b rfl Try.underlying9 Try.underlying43 Try.underlying5 H60_ ?_)
        intro b174_ cp175_ w176_ S178_ hc179_ H177_
        have S180_ := Same.trans S62_ S178_
        have H181_ : Holds w176_ (sl 5 1 (Value.slice (some ⟨b174_, 0, none⟩) x65_.data.size cp175_) x65_.data.size (bytesV (ints x65_.data)) :: cl b58_ 106 [(Value.pointer none), (Value.pointer none), (Value.slice none 0 0)] :: sl 5 1 V (List.length os) (bytesV os) :: cl b32_ 100 [(Value.pointer (some ⟨en17_, 0, none⟩))] :: ro R :: cl en17_ 216 [(Value.pointer (some ⟨pw18_, 0, none⟩)), (Value.pointer (some ⟨cb19_, 0, none⟩)), (Value.slice (some ⟨ub20_, 0, none⟩) 8 8)] :: cl cb19_ 244 [(Value.int .u32 (wsm prev (wgood (List.take k L))))] :: cl ub20_ 5 [c0, c1, c2, c3, c4, c5, c6, c7] :: cl pw18_ 255 [(Value.iface 95 (Value.pointer (some ⟨b3_, 0, none⟩))), (Value.int .i64 (po : Int)), (Value.int .i64 4096), (Value.int .i64 (pd.length : Int)), (Value.slice (some ⟨bb21_, 0, none⟩) 135168 135168), (Value.int .i64 131072)] :: cl bb21_ 5 (bytesV pd ++ junk) :: cl b10_ 100 [(Value.pointer (some ⟨en17_, 0, none⟩))] :: cl b3_ 97 [V] :: F) := cast2 (P := fun (c__ : List Value) (k__ : Nat) => Holds w176_ (sl 5 1 (Value.slice (some ⟨b174_, 0, none⟩) x65_.data.size cp175_) k__ c__ :: cl b58_ 106 [(Value.pointer none), (Value.pointer none), (Value.slice none 0 0)] :: sl 5 1 V (List.length os) (bytesV os) :: cl b32_ 100 [(Value.pointer (some ⟨en17_, 0, none⟩))] :: ro R :: cl en17_ 216 [(Value.pointer (some ⟨pw18_, 0, none⟩)), (Value.pointer (some ⟨cb19_, 0, none⟩)), (Value.slice (some ⟨ub20_, 0, none⟩) 8 8)] :: cl cb19_ 244 [(Value.int .u32 (wsm prev (wgood (List.take k L))))] :: cl ub20_ 5 [c0, c1, c2, c3, c4, c5, c6, c7] :: cl pw18_ 255 [(Value.iface 95 (Value.pointer (some ⟨b3_, 0, none⟩))), (Value.int .i64 (po : Int)), (Value.int .i64 4096), (Value.int .i64 (pd.length : Int)), (Value.slice (some ⟨bb21_, 0, none⟩) 135168 135168), (Value.int .i64 131072)] :: cl bb21_ 5 (bytesV pd ++ junk) :: cl b10_ 100 [(Value.pointer (some ⟨en17_, 0, none⟩))] :: cl b3_ 97 [V] :: F)) (byteCells_bytesV _ : byteCells x65_.data = bytesV (ints x65_.data)) (rfl : x65_.data.size = x65_.data.size) H177_
        have H182_ : Holds w176_ (sl 5 1 (Value.slice (some ⟨b174_, 0, none⟩) x65_.data.size cp175_) (List.length (ints x65_.data)) (bytesV (ints x65_.data)) :: cl b58_ 106 [(Value.pointer none), (Value.pointer none), (Value.slice none 0 0)] :: sl 5 1 V (List.length os) (bytesV os) :: cl b32_ 100 [(Value.pointer (some ⟨en17_, 0, none⟩))] :: ro R :: cl en17_ 216 [(Value.pointer (some ⟨pw18_, 0, none⟩)), (Value.pointer (some ⟨cb19_, 0, none⟩)), (Value.slice (some ⟨ub20_, 0, none⟩) 8 8)] :: cl cb19_ 244 [(Value.int .u32 (wsm prev (wgood (List.take k L))))] :: cl ub20_ 5 [c0, c1, c2, c3, c4, c5, c6, c7] :: cl pw18_ 255 [(Value.iface 95 (Value.pointer (some ⟨b3_, 0, none⟩))), (Value.int .i64 (po : Int)), (Value.int .i64 4096), (Value.int .i64 (pd.length : Int)), (Value.slice (some ⟨bb21_, 0, none⟩) 135168 135168), (Value.int .i64 131072)] :: cl bb21_ 5 (bytesV pd ++ junk) :: cl b10_ 100 [(Value.pointer (some ⟨en17_, 0, none⟩))] :: cl b3_ 97 [V] :: F) := cast2 (P := fun (c__ : List Value) (k__ : Nat) => Holds w176_ (sl 5 1 (Value.slice (some ⟨b174_, 0, none⟩) x65_.data.size cp175_) k__ c__ :: cl b58_ 106 [(Value.pointer none), (Value.pointer none), (Value.slice none 0 0)] :: sl 5 1 V (List.length os) (bytesV os) :: cl b32_ 100 [(Value.pointer (some ⟨en17_, 0, none⟩))] :: ro R :: cl en17_ 216 [(Value.pointer (some ⟨pw18_, 0, none⟩)), (Value.pointer (some ⟨cb19_, 0, none⟩)), (Value.slice (some ⟨ub20_, 0, none⟩) 8 8)] :: cl cb19_ 244 [(Value.int .u32 (wsm prev (wgood (List.take k L))))] :: cl ub20_ 5 [c0, c1, c2, c3, c4, c5, c6, c7] :: cl pw18_ 255 [(Value.iface 95 (Value.pointer (some ⟨b3_, 0, none⟩))), (Value.int .i64 (po : Int)), (Value.int .i64 4096), (Value.int .i64 (pd.length : Int)), (Value.slice (some ⟨bb21_, 0, none⟩) 135168 135168), (Value.int .i64 131072)] :: cl bb21_ 5 (bytesV pd ++ junk) :: cl b10_ 100 [(Value.pointer (some ⟨en17_, 0, none⟩))] :: cl b3_ 97 [V] :: F)) (rfl : bytesV (ints x65_.data) = bytesV (ints x65_.data)) ((ints_length _).symm : x65_.data.size = (List.length (ints x65_.data))) H181_
        refine S_list (T_val (v := (Value.pointer (some ⟨b58_, 0, none⟩))) (by kernel_rfl) ?_)
        refine S_list (T_val (v := (Value.pointer (some ⟨b58_, 2, none⟩))) (by kernel_rfl) ?_)
        refine S_list0 (T_store1 (v := (Value.slice (some ⟨b174_, 0, none⟩) x65_.data.size cp175_)) rfl rfl z43 rfl H182_ 1 rfl (Nat.le_of_ble_eq_true (by rfl)) ?_)
        intro w183_ S185_ H184_
        replace H184_ : Holds w183_ (sl 5 1 (Value.slice (some ⟨b174_, 0, none⟩) x65_.data.size cp175_) (List.length (ints x65_.data)) (bytesV (ints x65_.data)) :: cl b58_ 106 [(Value.pointer none), (Value.pointer none), (Value.slice (some ⟨b174_, 0, none⟩) x65_.data.size cp175_)] :: sl 5 1 V (List.length os) (bytesV os) :: cl b32_ 100 [(Value.pointer (some ⟨en17_, 0, none⟩))] :: ro R :: cl en17_ 216 [(Value.pointer (some ⟨pw18_, 0, none⟩)), (Value.pointer (some ⟨cb19_, 0, none⟩)), (Value.slice (some ⟨ub20_, 0, none⟩) 8 8)] :: cl cb19_ 244 [(Value.int .u32 (wsm prev (wgood (List.take k L))))] :: cl ub20_ 5 [c0, c1, c2, c3, c4, c5, c6, c7] :: cl pw18_ 255 [(Value.iface 95 (Value.pointer (some ⟨b3_, 0, none⟩))), (Value.int .i64 (po : Int)), (Value.int .i64 4096), (Value.int .i64 (pd.length : Int)), (Value.slice (some ⟨bb21_, 0, none⟩) 135168 135168), (Value.int .i64 131072)] :: cl bb21_ 5 (bytesV pd ++ junk) :: cl b10_ 100 [(Value.pointer (some ⟨en17_, 0, none⟩))] :: cl b3_ 97 [V] :: F) := H184_
        have S186_ := Same.trans S180_ S185_
        refine wpList_nil ?_
        refine (X_then (hK171_ _ _ ?_))
        clear hK171_
        refine C_seq (fun K187_ hK187_ => ?_)
        refine C_reg ?_
        refine S_list (T_val (v := (Value.agg #[(Value.pointer (some ⟨en17_, 0, none⟩))])) (x_loadN (vs := [(Value.pointer (some ⟨en17_, 0, none⟩))]) rfl Try.underlying100 rfl z100 rfl (Rd.cells (Holds.rd H184_ 3 rfl) 0 rfl)) ?_)
        refine S_list (T_val (v := (Value.pointer (some ⟨b58_, 0, none⟩))) (x_move rfl) ?_)
        refine S_list (T_callW (al := [(Value.agg #[(Value.pointer (some ⟨en17_, 0, none⟩))]), (Value.pointer (some ⟨b58_, 0, none⟩))]) rfl rfl cb46 (Calls.into (n := 9) (al := [(Value.agg #[(Value.pointer (some ⟨en17_, 0, none⟩))]), (Value.pointer (some ⟨b58_, 0, none⟩))]) Try.func46 rfl Try.ntmps46 rfl rfl ?_))
        refine C_seq (fun K188_ hK188_ => ?_)
        refine C_reg ?_
        refine S_list (T_box (v := (Value.agg #[(Value.pointer (some ⟨en17_, 0, none⟩))])) rfl H184_ ?_)
        intro b189_ w190_ S192_ H191_
        replace H191_ : Holds w190_ (cl b189_ 100 [(Value.pointer (some ⟨en17_, 0, none⟩))] :: sl 5 1 (Value.slice (some ⟨b174_, 0, none⟩) x65_.data.size cp175_) (List.length (ints x65_.data)) (bytesV (ints x65_.data)) :: cl b58_ 106 [(Value.pointer none), (Value.pointer none), (Value.slice (some ⟨b174_, 0, none⟩) x65_.data.size cp175_)] :: sl 5 1 V (List.length os) (bytesV os) :: cl b32_ 100 [(Value.pointer (some ⟨en17_, 0, none⟩))] :: ro R :: cl en17_ 216 [(Value.pointer (some ⟨pw18_, 0, none⟩)), (Value.pointer (some ⟨cb19_, 0, none⟩)), (Value.slice (some ⟨ub20_, 0, none⟩) 8 8)] :: cl cb19_ 244 [(Value.int .u32 (wsm prev (wgood (List.take k L))))] :: cl ub20_ 5 [c0, c1, c2, c3, c4, c5, c6, c7] :: cl pw18_ 255 [(Value.iface 95 (Value.pointer (some ⟨b3_, 0, none⟩))), (Value.int .i64 (po : Int)), (Value.int .i64 4096), (Value.int .i64 (pd.length : Int)), (Value.slice (some ⟨bb21_, 0, none⟩) 135168 135168), (Value.int .i64 131072)] :: cl bb21_ 5 (bytesV pd ++ junk) :: cl b10_ 100 [(Value.pointer (some ⟨en17_, 0, none⟩))] :: cl b3_ 97 [V] :: F) := H191_
        have S193_ := Same.trans S186_ S192_
        refine S_list (T_val (v := (Value.nilIface)) (x_assign rfl) ?_)
        refine wpList_nil ?_
        refine (X_then (hK188_ _ _ ?_))
        clear hK188_
        refine C_seq (fun K194_ hK194_ => ?_)
        refine C_reg ?_
        refine S_list (T_val (v := (Value.pointer (some ⟨b189_, 0, none⟩))) (by kernel_rfl) ?_)
        refine S_list (T_val (v := (Value.pointer (some ⟨en17_, 0, none⟩))) (x_load1 rfl Try.underlying98 rfl ((Holds.rd H191_ 0 rfl) 0 (Value.pointer (some ⟨en17_, 0, none⟩)) rfl)) ?_)
        refine S_list (T_val (v := (Value.pointer (some ⟨b58_, 0, none⟩))) (x_move rfl) ?_)
        have H195_ : Holds w190_ (cl b189_ 100 [(Value.pointer (some ⟨en17_, 0, none⟩))] :: sl 5 1 (Value.slice (some ⟨b174_, 0, none⟩) x65_.data.size cp175_) (List.length (ints x65_.data)) (bytesV (ints x65_.data)) :: cl b58_ 106 [(Value.pointer none), (Value.pointer none), ((Value.slice (some ⟨b174_, 0, none⟩) x65_.data.size cp175_))] :: sl 5 1 V (List.length os) (bytesV os) :: cl b32_ 100 [(Value.pointer (some ⟨en17_, 0, none⟩))] :: ro R :: cl en17_ 216 [(Value.pointer (some ⟨pw18_, 0, none⟩)), (Value.pointer (some ⟨cb19_, 0, none⟩)), (Value.slice (some ⟨ub20_, 0, none⟩) 8 8)] :: cl cb19_ 244 [(Value.int .u32 (wsm prev (wgood (List.take k L))))] :: cl ub20_ 5 [c0, c1, c2, c3, c4, c5, c6, c7] :: cl pw18_ 255 [(Value.iface 95 (Value.pointer (some ⟨b3_, 0, none⟩))), (Value.int .i64 (po : Int)), (Value.int .i64 4096), (Value.int .i64 (pd.length : Int)), (Value.slice (some ⟨bb21_, 0, none⟩) 135168 135168), (Value.int .i64 131072)] :: cl bb21_ 5 (bytesV pd ++ junk) :: cl b10_ 100 [(Value.pointer (some ⟨en17_, 0, none⟩))] :: cl b3_ 97 [V] :: F) := cast1 (P := fun (c__ : List Value) => Holds w190_ (cl b189_ 100 [(Value.pointer (some ⟨en17_, 0, none⟩))] :: sl 5 1 (Value.slice (some ⟨b174_, 0, none⟩) x65_.data.size cp175_) (List.length (ints x65_.data)) (bytesV (ints x65_.data)) :: cl b58_ 106 c__ :: sl 5 1 V (List.length os) (bytesV os) :: cl b32_ 100 [(Value.pointer (some ⟨en17_, 0, none⟩))] :: ro R :: cl en17_ 216 [(Value.pointer (some ⟨pw18_, 0, none⟩)), (Value.pointer (some ⟨cb19_, 0, none⟩)), (Value.slice (some ⟨ub20_, 0, none⟩) 8 8)] :: cl cb19_ 244 [(Value.int .u32 (wsm prev (wgood (List.take k L))))] :: cl ub20_ 5 [c0, c1, c2, c3, c4, c5, c6, c7] :: cl pw18_ 255 [(Value.iface 95 (Value.pointer (some ⟨b3_, 0, none⟩))), (Value.int .i64 (po : Int)), (Value.int .i64 4096), (Value.int .i64 (pd.length : Int)), (Value.slice (some ⟨bb21_, 0, none⟩) 135168 135168), (Value.int .i64 131072)] :: cl bb21_ 5 (bytesV pd ++ junk) :: cl b10_ 100 [(Value.pointer (some ⟨en17_, 0, none⟩))] :: cl b3_ 97 [V] :: F)) ((lcons rfl (lcons rfl (lcons (rfl : (Value.slice (some ⟨b174_, 0, none⟩) x65_.data.size cp175_) = ((Value.slice (some ⟨b174_, 0, none⟩) x65_.data.size cp175_))) rfl))) : [(Value.pointer none), (Value.pointer none), (Value.slice (some ⟨b174_, 0, none⟩) x65_.data.size cp175_)] = [(Value.pointer none), (Value.pointer none), ((Value.slice (some ⟨b174_, 0, none⟩) x65_.data.size cp175_))]) H191_
        have H197_ : Holds w190_ (ro R :: cl b58_ 106 [(Value.pointer none), (Value.pointer none), ((Value.slice (some ⟨b174_, 0, none⟩) x65_.data.size cp175_))] :: cl b189_ 100 [(Value.pointer (some ⟨en17_, 0, none⟩))] :: sl 5 1 (Value.slice (some ⟨b174_, 0, none⟩) x65_.data.size cp175_) (List.length (ints x65_.data)) (bytesV (ints x65_.data)) :: sl 5 1 V (List.length os) (bytesV os) :: cl b32_ 100 [(Value.pointer (some ⟨en17_, 0, none⟩))] :: cl en17_ 216 [(Value.pointer (some ⟨pw18_, 0, none⟩)), (Value.pointer (some ⟨cb19_, 0, none⟩)), (Value.slice (some ⟨ub20_, 0, none⟩) 8 8)] :: cl cb19_ 244 [(Value.int .u32 (wsm prev (wgood (List.take k L))))] :: cl ub20_ 5 [c0, c1, c2, c3, c4, c5, c6, c7] :: cl pw18_ 255 [(Value.iface 95 (Value.pointer (some ⟨b3_, 0, none⟩))), (Value.int .i64 (po : Int)), (Value.int .i64 4096), (Value.int .i64 (pd.length : Int)), (Value.slice (some ⟨bb21_, 0, none⟩) 135168 135168), (Value.int .i64 131072)] :: cl bb21_ 5 (bytesV pd ++ junk) :: cl b10_ 100 [(Value.pointer (some ⟨en17_, 0, none⟩))] :: cl b3_ 97 [V] :: F) := (Holds.bring (Holds.bring H195_ 2 rfl) 5 rfl)
        refine S_list (T_call (al := [(Value.pointer (some ⟨en17_, 0, none⟩)), (Value.pointer (some ⟨b58_, 0, none⟩))]) (pre := [cl b58_ 106 [(Value.pointer none), (Value.pointer none), ((Value.slice (some ⟨b174_, 0, none⟩) x65_.data.size cp175_))]]) (F := cl b189_ 100 [(Value.pointer (some ⟨en17_, 0, none⟩))] :: sl 5 1 (Value.slice (some ⟨b174_, 0, none⟩) x65_.data.size cp175_) (List.length (ints x65_.data)) (bytesV (ints x65_.data)) :: sl 5 1 V (List.length os) (bytesV os) :: cl b32_ 100 [(Value.pointer (some ⟨en17_, 0, none⟩))] :: cl en17_ 216 [(Value.pointer (some ⟨pw18_, 0, none⟩)), (Value.pointer (some ⟨cb19_, 0, none⟩)), (Value.slice (some ⟨ub20_, 0, none⟩) 8 8)] :: cl cb19_ 244 [(Value.int .u32 (wsm prev (wgood (List.take k L))))] :: cl ub20_ 5 [c0, c1, c2, c3, c4, c5, c6, c7] :: cl pw18_ 255 [(Value.iface 95 (Value.pointer (some ⟨b3_, 0, none⟩))), (Value.int .i64 (po : Int)), (Value.int .i64 4096), (Value.int .i64 (pd.length : Int)), (Value.slice (some ⟨bb21_, 0, none⟩) 135168 135168), (Value.int .i64 131072)] :: cl bb21_ 5 (bytesV pd ++ junk) :: cl b10_ 100 [(Value.pointer (some ⟨en17_, 0, none⟩))] :: cl b3_ 97 [V] :: F) rfl rfl cb75 (wEncNone R en17_ b58_ (Value.slice (some ⟨b174_, 0, none⟩) x65_.data.size cp175_)) H197_ ?_)
        rintro v196_ p201_ w198_ ⟨rfl, rfl⟩ S200_ H199_
        replace H199_ : Holds w198_ (ro R :: cl b58_ 106 [(Value.pointer none), (Value.pointer none), ((Value.slice (some ⟨b174_, 0, none⟩) x65_.data.size cp175_))] :: cl b189_ 100 [(Value.pointer (some ⟨en17_, 0, none⟩))] :: sl 5 1 (Value.slice (some ⟨b174_, 0, none⟩) x65_.data.size cp175_) (List.length (ints x65_.data)) (bytesV (ints x65_.data)) :: sl 5 1 V (List.length os) (bytesV os) :: cl b32_ 100 [(Value.pointer (some ⟨en17_, 0, none⟩))] :: cl en17_ 216 [(Value.pointer (some ⟨pw18_, 0, none⟩)), (Value.pointer (some ⟨cb19_, 0, none⟩)), (Value.slice (some ⟨ub20_, 0, none⟩) 8 8)] :: cl cb19_ 244 [(Value.int .u32 (wsm prev (wgood (List.take k L))))] :: cl ub20_ 5 [c0, c1, c2, c3, c4, c5, c6, c7] :: cl pw18_ 255 [(Value.iface 95 (Value.pointer (some ⟨b3_, 0, none⟩))), (Value.int .i64 (po : Int)), (Value.int .i64 4096), (Value.int .i64 (pd.length : Int)), (Value.slice (some ⟨bb21_, 0, none⟩) 135168 135168), (Value.int .i64 131072)] :: cl bb21_ 5 (bytesV pd ++ junk) :: cl b10_ 100 [(Value.pointer (some ⟨en17_, 0, none⟩))] :: cl b3_ 97 [V] :: F) := H199_
        have S202_ := Same.trans S193_ S200_
        refine S_list (T_val (v := (Value.iface 217 (Value.string (ByteArray.mk #[114, 101, 99, 111, 114, 100, 32, 105, 115, 32, 109, 105, 115, 115, 105, 110, 103, 32, 116, 121, 112, 101])))) (x_assign rfl) ?_)
        refine wpList_nil ?_
        refine (X_then (hK194_ _ _ ?_))
        clear hK194_
        refine C_ret ?_
        refine R_any (v := (Value.iface 217 (Value.string (ByteArray.mk #[114, 101, 99, 111, 114, 100, 32, 105, 115, 32, 109, 105, 115, 115, 105, 110, 103, 32, 116, 121, 112, 101])))) (run_results1 rfl rfl) ⟨_, rfl, ?_⟩
        refine S_list (T_val (v := (Value.bool true)) (by kernel_rfl) ?_)
        refine wpList_nil ?_
        refine (X_then (hK187_ _ _ ?_))
        clear hK187_
        refine C_condT rfl ?_
        refine C_reg ?_
        refine S_list (T_val (v := (Value.int .i64 (wbad (List.take k L) : Int))) (x_move rfl) ?_)
        refine S_list (T_val (v := (Value.int .i64 ((wbad (List.take k L) : Int) + 1))) (x_bin rfl rfl (ib_add (IntWalk.i64_in _ (by omega)))) ?_)
        refine S_list (T_val (v := (Value.int .i64 ((wbad (List.take k L) : Int) + 1))) (x_assign rfl) ?_)
        refine wpList_nil ?_
        refine (X_blkN (X_then (hK56_ _ _ ?_)))
        clear hK56_
        refine C_reg ?_
        refine S_list (T_val (v := (Value.int .i64 (k : Int))) (x_move rfl) ?_)
        refine S_list (T_val (v := (Value.int .i64 ((k : Int) + 1))) (x_bin rfl rfl (ib_add (IntWalk.i64_in _ (by omega)))) ?_)
        refine S_list (T_val (v := (Value.int .i64 ((k : Int) + 1))) (x_assign rfl) ?_)
        refine wpList_nil ?_
        refine (X_then ?_)
        have H203_ : Holds w198_ (ro R :: cl b58_ 106 [(Value.pointer none), (Value.pointer none), ((Value.slice (some ⟨b174_, 0, none⟩) x65_.data.size cp175_))] :: cl b189_ 100 [(Value.pointer (some ⟨en17_, 0, none⟩))] :: sl 5 1 (Value.slice (some ⟨b174_, 0, none⟩) x65_.data.size cp175_) (List.length (ints x65_.data)) (bytesV (ints x65_.data)) :: sl 5 1 V (List.length os) (bytesV os) :: cl b32_ 100 [(Value.pointer (some ⟨en17_, 0, none⟩))] :: cl en17_ 216 [(Value.pointer (some ⟨pw18_, 0, none⟩)), (Value.pointer (some ⟨cb19_, 0, none⟩)), (Value.slice (some ⟨ub20_, 0, none⟩) 8 8)] :: cl cb19_ 244 [(Value.int .u32 (wsm prev (wgood (List.take (k + 1) L))))] :: cl ub20_ 5 [c0, c1, c2, c3, c4, c5, c6, c7] :: cl pw18_ 255 [(Value.iface 95 (Value.pointer (some ⟨b3_, 0, none⟩))), (Value.int .i64 (po : Int)), (Value.int .i64 4096), (Value.int .i64 (pd.length : Int)), (Value.slice (some ⟨bb21_, 0, none⟩) 135168 135168), (Value.int .i64 131072)] :: cl bb21_ 5 (bytesV pd ++ junk) :: cl b10_ 100 [(Value.pointer (some ⟨en17_, 0, none⟩))] :: cl b3_ 97 [V] :: F) := cast1 (P := fun (c__ : List Value) => Holds w198_ (ro R :: cl b58_ 106 [(Value.pointer none), (Value.pointer none), ((Value.slice (some ⟨b174_, 0, none⟩) x65_.data.size cp175_))] :: cl b189_ 100 [(Value.pointer (some ⟨en17_, 0, none⟩))] :: sl 5 1 (Value.slice (some ⟨b174_, 0, none⟩) x65_.data.size cp175_) (List.length (ints x65_.data)) (bytesV (ints x65_.data)) :: sl 5 1 V (List.length os) (bytesV os) :: cl b32_ 100 [(Value.pointer (some ⟨en17_, 0, none⟩))] :: cl en17_ 216 [(Value.pointer (some ⟨pw18_, 0, none⟩)), (Value.pointer (some ⟨cb19_, 0, none⟩)), (Value.slice (some ⟨ub20_, 0, none⟩) 8 8)] :: cl cb19_ 244 c__ :: cl ub20_ 5 [c0, c1, c2, c3, c4, c5, c6, c7] :: cl pw18_ 255 [(Value.iface 95 (Value.pointer (some ⟨b3_, 0, none⟩))), (Value.int .i64 (po : Int)), (Value.int .i64 4096), (Value.int .i64 (pd.length : Int)), (Value.slice (some ⟨bb21_, 0, none⟩) 135168 135168), (Value.int .i64 131072)] :: cl bb21_ 5 (bytesV pd ++ junk) :: cl b10_ 100 [(Value.pointer (some ⟨en17_, 0, none⟩))] :: cl b3_ 97 [V] :: F)) ((lcons (congrArg (Value.int .u32) ((by rw [wgood_no hx66_ c71_f]) : wsm prev (wgood (List.take k L)) = wsm prev (wgood (List.take (k + 1) L)))) rfl) : [(Value.int .u32 (wsm prev (wgood (List.take k L))))] = [(Value.int .u32 (wsm prev (wgood (List.take (k + 1) L))))]) H199_
        have H204_ : Holds w198_ (sl 5 1 V (List.length os) (bytesV os) :: cl b32_ 100 [(Value.pointer (some ⟨en17_, 0, none⟩))] :: ro R :: cl en17_ 216 [(Value.pointer (some ⟨pw18_, 0, none⟩)), (Value.pointer (some ⟨cb19_, 0, none⟩)), (Value.slice (some ⟨ub20_, 0, none⟩) 8 8)] :: cl cb19_ 244 [(Value.int .u32 (wsm prev (wgood (List.take (k + 1) L))))] :: cl ub20_ 5 [c0, c1, c2, c3, c4, c5, c6, c7] :: cl pw18_ 255 [(Value.iface 95 (Value.pointer (some ⟨b3_, 0, none⟩))), (Value.int .i64 (po : Int)), (Value.int .i64 4096), (Value.int .i64 (pd.length : Int)), (Value.slice (some ⟨bb21_, 0, none⟩) 135168 135168), (Value.int .i64 131072)] :: cl bb21_ 5 (bytesV pd ++ junk) :: cl b10_ 100 [(Value.pointer (some ⟨en17_, 0, none⟩))] :: cl b3_ 97 [V] :: F) := (Holds.erase (Holds.erase (Holds.erase (Holds.bring (Holds.bring (Holds.bring (Holds.bring (Holds.bring (Holds.bring (Holds.bring (Holds.bring (Holds.bring (Holds.bring H203_ 12 rfl) 12 rfl) 12 rfl) 12 rfl) 12 rfl) 12 rfl) 12 rfl) 7 rfl) 12 rfl) 12 rfl) 10) 10) 10)
        exact ⟨⟨k + 1, po, pd, junk, V, os, c0, c1, c2, c3, c4, c5, c6, c7⟩, ⟨_, congrArg (fun e => mkA 70 e []) (ch (ch (ch (ch (ch (ch (ch rfl rfl) rfl) rfl) rfl) rfl) (congrArg (Value.int .i64) ((by rw [wbad_no hx66_ c71_f]; rfl) : (wbad (List.take k L) : Int) + 1 = (wbad (List.take (k + 1) L) : Int)))) (congrArg (Value.int .i64) ((by first | rfl | omega | (simp; done) | (simp; omega)) : (k : Int) + 1 = ((k + 1 : Nat) : Int)))), H204_, S202_, (by rw [hos, wgood_no hx66_ c71_f]), (by first | assumption | omega | exact rfl), (by first | assumption | omega | exact rfl), (by first | assumption | omega | exact rfl), (by first | assumption | omega | exact rfl), (by first | assumption | omega | exact rfl)⟩, by first | omega | (dsimp only; omega) | (simp; omega)⟩
      · skip
        refine C_skip (X_then (hK171_ _ _ ?_))
        clear hK171_
        refine C_seq (fun K205_ hK205_ => ?_)
        refine C_reg ?_
        refine S_list (T_val (v := (Value.agg #[(Value.pointer (some ⟨en17_, 0, none⟩))])) (x_loadN (vs := [(Value.pointer (some ⟨en17_, 0, none⟩))]) rfl Try.underlying100 rfl z100 rfl (Rd.cells (Holds.rd H60_ 2 rfl) 0 rfl)) ?_)
        refine S_list (T_val (v := (Value.pointer (some ⟨b58_, 0, none⟩))) (x_move rfl) ?_)
        refine S_list (T_callW (al := [(Value.agg #[(Value.pointer (some ⟨en17_, 0, none⟩))]), (Value.pointer (some ⟨b58_, 0, none⟩))]) rfl rfl cb46 (Calls.into (n := 9) (al := [(Value.agg #[(Value.pointer (some ⟨en17_, 0, none⟩))]), (Value.pointer (some ⟨b58_, 0, none⟩))]) Try.func46 rfl Try.ntmps46 rfl rfl ?_))
        refine C_seq (fun K206_ hK206_ => ?_)
        refine C_reg ?_
        refine S_list (T_box (v := (Value.agg #[(Value.pointer (some ⟨en17_, 0, none⟩))])) rfl H60_ ?_)
        intro b207_ w208_ S210_ H209_
        replace H209_ : Holds w208_ (cl b207_ 100 [(Value.pointer (some ⟨en17_, 0, none⟩))] :: cl b58_ 106 [(Value.pointer none), (Value.pointer none), (Value.slice none 0 0)] :: sl 5 1 V (List.length os) (bytesV os) :: cl b32_ 100 [(Value.pointer (some ⟨en17_, 0, none⟩))] :: ro R :: cl en17_ 216 [(Value.pointer (some ⟨pw18_, 0, none⟩)), (Value.pointer (some ⟨cb19_, 0, none⟩)), (Value.slice (some ⟨ub20_, 0, none⟩) 8 8)] :: cl cb19_ 244 [(Value.int .u32 (wsm prev (wgood (List.take k L))))] :: cl ub20_ 5 [c0, c1, c2, c3, c4, c5, c6, c7] :: cl pw18_ 255 [(Value.iface 95 (Value.pointer (some ⟨b3_, 0, none⟩))), (Value.int .i64 (po : Int)), (Value.int .i64 4096), (Value.int .i64 (pd.length : Int)), (Value.slice (some ⟨bb21_, 0, none⟩) 135168 135168), (Value.int .i64 131072)] :: cl bb21_ 5 (bytesV pd ++ junk) :: cl b10_ 100 [(Value.pointer (some ⟨en17_, 0, none⟩))] :: cl b3_ 97 [V] :: F) := H209_
        have S211_ := Same.trans S62_ S210_
        refine S_list (T_val (v := (Value.nilIface)) (x_assign rfl) ?_)
        refine wpList_nil ?_
        refine (X_then (hK206_ _ _ ?_))
        clear hK206_
        refine C_seq (fun K212_ hK212_ => ?_)
        refine C_reg ?_
        refine S_list (T_val (v := (Value.pointer (some ⟨b207_, 0, none⟩))) (by kernel_rfl) ?_)
        refine S_list (T_val (v := (Value.pointer (some ⟨en17_, 0, none⟩))) (x_load1 rfl Try.underlying98 rfl ((Holds.rd H209_ 0 rfl) 0 (Value.pointer (some ⟨en17_, 0, none⟩)) rfl)) ?_)
        refine S_list (T_val (v := (Value.pointer (some ⟨b58_, 0, none⟩))) (x_move rfl) ?_)
        have H213_ : Holds w208_ (cl b207_ 100 [(Value.pointer (some ⟨en17_, 0, none⟩))] :: cl b58_ 106 [(Value.pointer none), (Value.pointer none), ((Value.slice none 0 0))] :: sl 5 1 V (List.length os) (bytesV os) :: cl b32_ 100 [(Value.pointer (some ⟨en17_, 0, none⟩))] :: ro R :: cl en17_ 216 [(Value.pointer (some ⟨pw18_, 0, none⟩)), (Value.pointer (some ⟨cb19_, 0, none⟩)), (Value.slice (some ⟨ub20_, 0, none⟩) 8 8)] :: cl cb19_ 244 [(Value.int .u32 (wsm prev (wgood (List.take k L))))] :: cl ub20_ 5 [c0, c1, c2, c3, c4, c5, c6, c7] :: cl pw18_ 255 [(Value.iface 95 (Value.pointer (some ⟨b3_, 0, none⟩))), (Value.int .i64 (po : Int)), (Value.int .i64 4096), (Value.int .i64 (pd.length : Int)), (Value.slice (some ⟨bb21_, 0, none⟩) 135168 135168), (Value.int .i64 131072)] :: cl bb21_ 5 (bytesV pd ++ junk) :: cl b10_ 100 [(Value.pointer (some ⟨en17_, 0, none⟩))] :: cl b3_ 97 [V] :: F) := cast1 (P := fun (c__ : List Value) => Holds w208_ (cl b207_ 100 [(Value.pointer (some ⟨en17_, 0, none⟩))] :: cl b58_ 106 c__ :: sl 5 1 V (List.length os) (bytesV os) :: cl b32_ 100 [(Value.pointer (some ⟨en17_, 0, none⟩))] :: ro R :: cl en17_ 216 [(Value.pointer (some ⟨pw18_, 0, none⟩)), (Value.pointer (some ⟨cb19_, 0, none⟩)), (Value.slice (some ⟨ub20_, 0, none⟩) 8 8)] :: cl cb19_ 244 [(Value.int .u32 (wsm prev (wgood (List.take k L))))] :: cl ub20_ 5 [c0, c1, c2, c3, c4, c5, c6, c7] :: cl pw18_ 255 [(Value.iface 95 (Value.pointer (some ⟨b3_, 0, none⟩))), (Value.int .i64 (po : Int)), (Value.int .i64 4096), (Value.int .i64 (pd.length : Int)), (Value.slice (some ⟨bb21_, 0, none⟩) 135168 135168), (Value.int .i64 131072)] :: cl bb21_ 5 (bytesV pd ++ junk) :: cl b10_ 100 [(Value.pointer (some ⟨en17_, 0, none⟩))] :: cl b3_ 97 [V] :: F)) ((lcons rfl (lcons rfl (lcons (rfl : (Value.slice none 0 0) = ((Value.slice none 0 0))) rfl))) : [(Value.pointer none), (Value.pointer none), (Value.slice none 0 0)] = [(Value.pointer none), (Value.pointer none), ((Value.slice none 0 0))]) H209_
        have H215_ : Holds w208_ (ro R :: cl b58_ 106 [(Value.pointer none), (Value.pointer none), ((Value.slice none 0 0))] :: cl b207_ 100 [(Value.pointer (some ⟨en17_, 0, none⟩))] :: sl 5 1 V (List.length os) (bytesV os) :: cl b32_ 100 [(Value.pointer (some ⟨en17_, 0, none⟩))] :: cl en17_ 216 [(Value.pointer (some ⟨pw18_, 0, none⟩)), (Value.pointer (some ⟨cb19_, 0, none⟩)), (Value.slice (some ⟨ub20_, 0, none⟩) 8 8)] :: cl cb19_ 244 [(Value.int .u32 (wsm prev (wgood (List.take k L))))] :: cl ub20_ 5 [c0, c1, c2, c3, c4, c5, c6, c7] :: cl pw18_ 255 [(Value.iface 95 (Value.pointer (some ⟨b3_, 0, none⟩))), (Value.int .i64 (po : Int)), (Value.int .i64 4096), (Value.int .i64 (pd.length : Int)), (Value.slice (some ⟨bb21_, 0, none⟩) 135168 135168), (Value.int .i64 131072)] :: cl bb21_ 5 (bytesV pd ++ junk) :: cl b10_ 100 [(Value.pointer (some ⟨en17_, 0, none⟩))] :: cl b3_ 97 [V] :: F) := (Holds.bring (Holds.bring H213_ 1 rfl) 4 rfl)
        refine S_list (T_call (al := [(Value.pointer (some ⟨en17_, 0, none⟩)), (Value.pointer (some ⟨b58_, 0, none⟩))]) (pre := [cl b58_ 106 [(Value.pointer none), (Value.pointer none), ((Value.slice none 0 0))]]) (F := cl b207_ 100 [(Value.pointer (some ⟨en17_, 0, none⟩))] :: sl 5 1 V (List.length os) (bytesV os) :: cl b32_ 100 [(Value.pointer (some ⟨en17_, 0, none⟩))] :: cl en17_ 216 [(Value.pointer (some ⟨pw18_, 0, none⟩)), (Value.pointer (some ⟨cb19_, 0, none⟩)), (Value.slice (some ⟨ub20_, 0, none⟩) 8 8)] :: cl cb19_ 244 [(Value.int .u32 (wsm prev (wgood (List.take k L))))] :: cl ub20_ 5 [c0, c1, c2, c3, c4, c5, c6, c7] :: cl pw18_ 255 [(Value.iface 95 (Value.pointer (some ⟨b3_, 0, none⟩))), (Value.int .i64 (po : Int)), (Value.int .i64 4096), (Value.int .i64 (pd.length : Int)), (Value.slice (some ⟨bb21_, 0, none⟩) 135168 135168), (Value.int .i64 131072)] :: cl bb21_ 5 (bytesV pd ++ junk) :: cl b10_ 100 [(Value.pointer (some ⟨en17_, 0, none⟩))] :: cl b3_ 97 [V] :: F) rfl rfl cb75 (wEncNone R en17_ b58_ (Value.slice none 0 0)) H215_ ?_)
        rintro v214_ p219_ w216_ ⟨rfl, rfl⟩ S218_ H217_
        replace H217_ : Holds w216_ (ro R :: cl b58_ 106 [(Value.pointer none), (Value.pointer none), ((Value.slice none 0 0))] :: cl b207_ 100 [(Value.pointer (some ⟨en17_, 0, none⟩))] :: sl 5 1 V (List.length os) (bytesV os) :: cl b32_ 100 [(Value.pointer (some ⟨en17_, 0, none⟩))] :: cl en17_ 216 [(Value.pointer (some ⟨pw18_, 0, none⟩)), (Value.pointer (some ⟨cb19_, 0, none⟩)), (Value.slice (some ⟨ub20_, 0, none⟩) 8 8)] :: cl cb19_ 244 [(Value.int .u32 (wsm prev (wgood (List.take k L))))] :: cl ub20_ 5 [c0, c1, c2, c3, c4, c5, c6, c7] :: cl pw18_ 255 [(Value.iface 95 (Value.pointer (some ⟨b3_, 0, none⟩))), (Value.int .i64 (po : Int)), (Value.int .i64 4096), (Value.int .i64 (pd.length : Int)), (Value.slice (some ⟨bb21_, 0, none⟩) 135168 135168), (Value.int .i64 131072)] :: cl bb21_ 5 (bytesV pd ++ junk) :: cl b10_ 100 [(Value.pointer (some ⟨en17_, 0, none⟩))] :: cl b3_ 97 [V] :: F) := H217_
        have S220_ := Same.trans S211_ S218_
        refine S_list (T_val (v := (Value.iface 217 (Value.string (ByteArray.mk #[114, 101, 99, 111, 114, 100, 32, 105, 115, 32, 109, 105, 115, 115, 105, 110, 103, 32, 116, 121, 112, 101])))) (x_assign rfl) ?_)
        refine wpList_nil ?_
        refine (X_then (hK212_ _ _ ?_))
        clear hK212_
        refine C_ret ?_
        refine R_any (v := (Value.iface 217 (Value.string (ByteArray.mk #[114, 101, 99, 111, 114, 100, 32, 105, 115, 32, 109, 105, 115, 115, 105, 110, 103, 32, 116, 121, 112, 101])))) (run_results1 rfl rfl) ⟨_, rfl, ?_⟩
        refine S_list (T_val (v := (Value.bool true)) (by kernel_rfl) ?_)
        refine wpList_nil ?_
        refine (X_then (hK205_ _ _ ?_))
        clear hK205_
        refine C_condT rfl ?_
        refine C_reg ?_
        refine S_list (T_val (v := (Value.int .i64 (wbad (List.take k L) : Int))) (x_move rfl) ?_)
        refine S_list (T_val (v := (Value.int .i64 ((wbad (List.take k L) : Int) + 1))) (x_bin rfl rfl (ib_add (IntWalk.i64_in _ (by omega)))) ?_)
        refine S_list (T_val (v := (Value.int .i64 ((wbad (List.take k L) : Int) + 1))) (x_assign rfl) ?_)
        refine wpList_nil ?_
        refine (X_blkN (X_then (hK56_ _ _ ?_)))
        clear hK56_
        refine C_reg ?_
        refine S_list (T_val (v := (Value.int .i64 (k : Int))) (x_move rfl) ?_)
        refine S_list (T_val (v := (Value.int .i64 ((k : Int) + 1))) (x_bin rfl rfl (ib_add (IntWalk.i64_in _ (by omega)))) ?_)
        refine S_list (T_val (v := (Value.int .i64 ((k : Int) + 1))) (x_assign rfl) ?_)
        refine wpList_nil ?_
        refine (X_then ?_)
        have H221_ : Holds w216_ (ro R :: cl b58_ 106 [(Value.pointer none), (Value.pointer none), ((Value.slice none 0 0))] :: cl b207_ 100 [(Value.pointer (some ⟨en17_, 0, none⟩))] :: sl 5 1 V (List.length os) (bytesV os) :: cl b32_ 100 [(Value.pointer (some ⟨en17_, 0, none⟩))] :: cl en17_ 216 [(Value.pointer (some ⟨pw18_, 0, none⟩)), (Value.pointer (some ⟨cb19_, 0, none⟩)), (Value.slice (some ⟨ub20_, 0, none⟩) 8 8)] :: cl cb19_ 244 [(Value.int .u32 (wsm prev (wgood (List.take (k + 1) L))))] :: cl ub20_ 5 [c0, c1, c2, c3, c4, c5, c6, c7] :: cl pw18_ 255 [(Value.iface 95 (Value.pointer (some ⟨b3_, 0, none⟩))), (Value.int .i64 (po : Int)), (Value.int .i64 4096), (Value.int .i64 (pd.length : Int)), (Value.slice (some ⟨bb21_, 0, none⟩) 135168 135168), (Value.int .i64 131072)] :: cl bb21_ 5 (bytesV pd ++ junk) :: cl b10_ 100 [(Value.pointer (some ⟨en17_, 0, none⟩))] :: cl b3_ 97 [V] :: F) := cast1 (P := fun (c__ : List Value) => Holds w216_ (ro R :: cl b58_ 106 [(Value.pointer none), (Value.pointer none), ((Value.slice none 0 0))] :: cl b207_ 100 [(Value.pointer (some ⟨en17_, 0, none⟩))] :: sl 5 1 V (List.length os) (bytesV os) :: cl b32_ 100 [(Value.pointer (some ⟨en17_, 0, none⟩))] :: cl en17_ 216 [(Value.pointer (some ⟨pw18_, 0, none⟩)), (Value.pointer (some ⟨cb19_, 0, none⟩)), (Value.slice (some ⟨ub20_, 0, none⟩) 8 8)] :: cl cb19_ 244 c__ :: cl ub20_ 5 [c0, c1, c2, c3, c4, c5, c6, c7] :: cl pw18_ 255 [(Value.iface 95 (Value.pointer (some ⟨b3_, 0, none⟩))), (Value.int .i64 (po : Int)), (Value.int .i64 4096), (Value.int .i64 (pd.length : Int)), (Value.slice (some ⟨bb21_, 0, none⟩) 135168 135168), (Value.int .i64 131072)] :: cl bb21_ 5 (bytesV pd ++ junk) :: cl b10_ 100 [(Value.pointer (some ⟨en17_, 0, none⟩))] :: cl b3_ 97 [V] :: F)) ((lcons (congrArg (Value.int .u32) ((by rw [wgood_no hx66_ c71_f]) : wsm prev (wgood (List.take k L)) = wsm prev (wgood (List.take (k + 1) L)))) rfl) : [(Value.int .u32 (wsm prev (wgood (List.take k L))))] = [(Value.int .u32 (wsm prev (wgood (List.take (k + 1) L))))]) H217_
        have H222_ : Holds w216_ (sl 5 1 V (List.length os) (bytesV os) :: cl b32_ 100 [(Value.pointer (some ⟨en17_, 0, none⟩))] :: ro R :: cl en17_ 216 [(Value.pointer (some ⟨pw18_, 0, none⟩)), (Value.pointer (some ⟨cb19_, 0, none⟩)), (Value.slice (some ⟨ub20_, 0, none⟩) 8 8)] :: cl cb19_ 244 [(Value.int .u32 (wsm prev (wgood (List.take (k + 1) L))))] :: cl ub20_ 5 [c0, c1, c2, c3, c4, c5, c6, c7] :: cl pw18_ 255 [(Value.iface 95 (Value.pointer (some ⟨b3_, 0, none⟩))), (Value.int .i64 (po : Int)), (Value.int .i64 4096), (Value.int .i64 (pd.length : Int)), (Value.slice (some ⟨bb21_, 0, none⟩) 135168 135168), (Value.int .i64 131072)] :: cl bb21_ 5 (bytesV pd ++ junk) :: cl b10_ 100 [(Value.pointer (some ⟨en17_, 0, none⟩))] :: cl b3_ 97 [V] :: F) := (Holds.erase (Holds.erase (Holds.bring (Holds.bring (Holds.bring (Holds.bring (Holds.bring (Holds.bring (Holds.bring (Holds.bring (Holds.bring (Holds.bring H221_ 11 rfl) 11 rfl) 11 rfl) 11 rfl) 11 rfl) 11 rfl) 11 rfl) 7 rfl) 11 rfl) 11 rfl) 10) 10)
        exact ⟨⟨k + 1, po, pd, junk, V, os, c0, c1, c2, c3, c4, c5, c6, c7⟩, ⟨_, congrArg (fun e => mkA 70 e []) (ch (ch (ch (ch (ch (ch (ch rfl rfl) rfl) rfl) rfl) rfl) (congrArg (Value.int .i64) ((by rw [wbad_no hx66_ c71_f]; rfl) : (wbad (List.take k L) : Int) + 1 = (wbad (List.take (k + 1) L) : Int)))) (congrArg (Value.int .i64) ((by first | rfl | omega | (simp; done) | (simp; omega)) : (k : Int) + 1 = ((k + 1 : Nat) : Int)))), H222_, S220_, (by rw [hos, wgood_no hx66_ c71_f]), (by first | assumption | omega | exact rfl), (by first | assumption | omega | exact rfl), (by first | assumption | omega | exact rfl), (by first | assumption | omega | exact rfl), (by first | assumption | omega | exact rfl)⟩, by first | omega | (dsimp only; omega) | (simp; omega)⟩
  · have c55_fp : ¬ ((k : Int) < (L.length : Int)) := of_decide_eq_false c55_f
    refine C_exit (X_thenX (X_thenX (X_blkHit ?_)))
    refine (X_then (hK42_ _ _ ?_))
    clear hK42_
    refine C_seq (fun K223_ hK223_ => ?_)
    refine C_reg ?_
    refine S_list (T_val (v := (Value.agg #[(Value.pointer (some ⟨en17_, 0, none⟩))])) (x_loadN (vs := [(Value.pointer (some ⟨en17_, 0, none⟩))]) rfl Try.underlying100 rfl z100 rfl (Rd.cells (Holds.rd H51_ 1 rfl) 0 rfl)) ?_)
    refine S_list (T_callW (al := [(Value.agg #[(Value.pointer (some ⟨en17_, 0, none⟩))])]) rfl rfl cb47 (Calls.into (n := 6) (al := [(Value.agg #[(Value.pointer (some ⟨en17_, 0, none⟩))])]) Try.func47 rfl Try.ntmps47 rfl rfl ?_))
    refine C_seq (fun K224_ hK224_ => ?_)
    refine C_reg ?_
    refine S_list (T_box (v := (Value.agg #[(Value.pointer (some ⟨en17_, 0, none⟩))])) rfl H51_ ?_)
    intro b225_ w226_ S228_ H227_
    replace H227_ : Holds w226_ (cl b225_ 100 [(Value.pointer (some ⟨en17_, 0, none⟩))] :: sl 5 1 V (List.length os) (bytesV os) :: cl b32_ 100 [(Value.pointer (some ⟨en17_, 0, none⟩))] :: ro R :: cl en17_ 216 [(Value.pointer (some ⟨pw18_, 0, none⟩)), (Value.pointer (some ⟨cb19_, 0, none⟩)), (Value.slice (some ⟨ub20_, 0, none⟩) 8 8)] :: cl cb19_ 244 [(Value.int .u32 (wsm prev (wgood (List.take k L))))] :: cl ub20_ 5 [c0, c1, c2, c3, c4, c5, c6, c7] :: cl pw18_ 255 [(Value.iface 95 (Value.pointer (some ⟨b3_, 0, none⟩))), (Value.int .i64 (po : Int)), (Value.int .i64 4096), (Value.int .i64 (pd.length : Int)), (Value.slice (some ⟨bb21_, 0, none⟩) 135168 135168), (Value.int .i64 131072)] :: cl bb21_ 5 (bytesV pd ++ junk) :: cl b10_ 100 [(Value.pointer (some ⟨en17_, 0, none⟩))] :: cl b3_ 97 [V] :: F) := H227_
    have S229_ := Same.trans S52_ S228_
    refine S_list (T_val (v := (Value.nilIface)) (x_assign rfl) ?_)
    refine wpList_nil ?_
    refine (X_then (hK224_ _ _ ?_))
    clear hK224_
    refine C_seq (fun K230_ hK230_ => ?_)
    refine C_reg ?_
    refine S_list (T_val (v := (Value.pointer (some ⟨b225_, 0, none⟩))) (by kernel_rfl) ?_)
    refine S_list (T_val (v := (Value.pointer (some ⟨en17_, 0, none⟩))) (x_load1 rfl Try.underlying98 rfl ((Holds.rd H227_ 0 rfl) 0 (Value.pointer (some ⟨en17_, 0, none⟩)) rfl)) ?_)
    refine S_list (T_callW (al := [(Value.pointer (some ⟨en17_, 0, none⟩))]) rfl rfl cb76 (Calls.intoN (n := 15) (al := [(Value.pointer (some ⟨en17_, 0, none⟩))]) Try.func76 rfl Try.ntmps76 rfl rfl ?_))
    refine C_seq (fun K231_ hK231_ => ?_)
    refine C_reg ?_
    refine S_list (T_val (v := (Value.nilIface)) (x_assign rfl) ?_)
    refine wpList_nil ?_
    refine (X_then (hK231_ _ _ ?_))
    clear hK231_
    refine C_seq (fun K232_ hK232_ => ?_)
    refine C_reg ?_
    refine S_list (T_val (v := (Value.pointer (some ⟨en17_, 0, none⟩))) (x_move rfl) ?_)
    refine S_list (T_val (v := (Value.pointer (some ⟨en17_, 0, none⟩))) (by kernel_rfl) ?_)
    refine S_list (T_val (v := (Value.pointer (some ⟨en17_, 0, none⟩))) (x_fieldAddr0 rfl Try.underlying216 rfl z214 rfl rfl H227_ 4 rfl (by kernel_rfl)) ?_)
    refine S_list (T_callW (al := [(Value.pointer (some ⟨en17_, 0, none⟩))]) rfl rfl cb100 (Calls.into (n := 2) (al := [(Value.pointer (some ⟨en17_, 0, none⟩))]) Try.func100 rfl Try.ntmps100 rfl rfl ?_))
    refine C_skip ?_
    refine R_0 rfl ⟨_, rfl, ?_⟩
    refine wpList_nil ?_
    refine (X_then (hK232_ _ _ ?_))
    clear hK232_
    refine C_seq (fun K233_ hK233_ => ?_)
    refine C_reg ?_
    refine S_list (T_val (v := (Value.pointer (some ⟨en17_, 0, none⟩))) (x_move rfl) ?_)
    refine S_list (T_val (v := (Value.pointer (some ⟨en17_, 0, none⟩))) (by kernel_rfl) ?_)
    refine S_list (T_val (v := (Value.pointer (some ⟨en17_, 0, none⟩))) (x_fieldAddr0 rfl Try.underlying216 rfl z214 rfl rfl H227_ 4 rfl (by kernel_rfl)) ?_)
    refine S_defer (dd := { target := .fn (.func 101) #[], args := #[(Value.pointer (some ⟨en17_, 0, none⟩))] }) (by kernel_rfl) ?_
    refine wpList_nil ?_
    refine (X_then (hK233_ _ _ ?_))
    clear hK233_
    refine C_seq (fun K234_ hK234_ => ?_)
    refine C_reg ?_
    refine S_list (T_val (v := (Value.pointer (some ⟨en17_, 0, none⟩))) (x_move rfl) ?_)
    refine S_list (T_val (v := (Value.pointer (some ⟨en17_, 0, none⟩))) (by kernel_rfl) ?_)
    refine S_list (T_val (v := (Value.pointer (some ⟨en17_, 0, none⟩))) (by kernel_rfl) ?_)
    refine S_list (T_val (v := (Value.pointer (some ⟨pw18_, 0, none⟩))) (x_load1 rfl Try.underlying211 rfl ((Holds.rd H227_ 4 rfl) 0 (Value.pointer (some ⟨pw18_, 0, none⟩)) rfl)) ?_)
    refine S_list (T_callW (al := [(Value.pointer (some ⟨pw18_, 0, none⟩))]) rfl rfl cb104 (Calls.into (n := 11) (al := [(Value.pointer (some ⟨pw18_, 0, none⟩))]) Try.func104 rfl Try.ntmps104 rfl rfl ?_))
    refine C_seq (fun K235_ hK235_ => ?_)
    refine C_reg ?_
    refine S_list (T_val (v := (Value.nilIface)) (x_assign rfl) ?_)
    refine wpList_nil ?_
    refine (X_then (hK235_ _ _ ?_))
    clear hK235_
    refine C_seq (fun K236_ hK236_ => ?_)
    refine C_reg ?_
    refine S_list (T_val (v := (Value.pointer (some ⟨pw18_, 0, none⟩))) (x_move rfl) ?_)
    have H244_ : Holds w226_ (ro R :: cl pw18_ 255 [(Value.iface 95 (Value.pointer (some ⟨b3_, 0, none⟩))), (Value.int .i64 (po : Int)), (Value.int .i64 4096), (Value.int .i64 (pd.length : Int)), (Value.slice (some ⟨bb21_, 0, none⟩) 135168 135168), (Value.int .i64 131072)] :: cl bb21_ 5 (bytesV pd ++ junk) :: cl b3_ 97 [V] :: sl 5 1 V (List.length os) (bytesV os) :: cl b225_ 100 [(Value.pointer (some ⟨en17_, 0, none⟩))] :: cl b32_ 100 [(Value.pointer (some ⟨en17_, 0, none⟩))] :: cl en17_ 216 [(Value.pointer (some ⟨pw18_, 0, none⟩)), (Value.pointer (some ⟨cb19_, 0, none⟩)), (Value.slice (some ⟨ub20_, 0, none⟩) 8 8)] :: cl cb19_ 244 [(Value.int .u32 (wsm prev (wgood (List.take k L))))] :: cl ub20_ 5 [c0, c1, c2, c3, c4, c5, c6, c7] :: cl b10_ 100 [(Value.pointer (some ⟨en17_, 0, none⟩))] :: F) := (Holds.bring (Holds.bring (Holds.bring (Holds.bring (Holds.bring H227_ 1 rfl) 10 rfl) 9 rfl) 9 rfl) 6 rfl)
    refine S_list (T_call (al := [(Value.pointer (some ⟨pw18_, 0, none⟩))]) (pre := [cl pw18_ 255 [(Value.iface 95 (Value.pointer (some ⟨b3_, 0, none⟩))), (Value.int .i64 (po : Int)), (Value.int .i64 4096), (Value.int .i64 (pd.length : Int)), (Value.slice (some ⟨bb21_, 0, none⟩) 135168 135168), (Value.int .i64 131072)], cl bb21_ 5 (bytesV pd ++ junk), cl b3_ 97 [V], sl 5 1 V (List.length os) (bytesV os)]) (F := cl b225_ 100 [(Value.pointer (some ⟨en17_, 0, none⟩))] :: cl b32_ 100 [(Value.pointer (some ⟨en17_, 0, none⟩))] :: cl en17_ 216 [(Value.pointer (some ⟨pw18_, 0, none⟩)), (Value.pointer (some ⟨cb19_, 0, none⟩)), (Value.slice (some ⟨ub20_, 0, none⟩) 8 8)] :: cl cb19_ 244 [(Value.int .u32 (wsm prev (wgood (List.take k L))))] :: cl ub20_ 5 [c0, c1, c2, c3, c4, c5, c6, c7] :: cl b10_ 100 [(Value.pointer (some ⟨en17_, 0, none⟩))] :: F) rfl rfl cb115 (wFlush R pw18_ bb21_ b3_ po pd junk V os (by first | assumption | omega) (by first | assumption | omega) (by first | assumption | omega)) H244_ ?_)
    rintro v237_ p248_ w245_ ⟨nn238_, po239_, junk240_, V241_, rfl, rfl, he242_, he243_⟩ S247_ H246_
    replace H246_ : Holds w245_ (ro R :: cl pw18_ 255 [(Value.iface 95 (Value.pointer (some ⟨b3_, 0, none⟩))), (Value.int .i64 (po239_ : Int)), (Value.int .i64 4096), (Value.int .i64 0), (Value.slice (some ⟨bb21_, 0, none⟩) 135168 135168), (Value.int .i64 131072)] :: cl bb21_ 5 (bytesV [] ++ junk240_) :: cl b3_ 97 [V241_] :: sl 5 1 V241_ (List.length (os ++ pd)) (bytesV (os ++ pd)) :: cl b225_ 100 [(Value.pointer (some ⟨en17_, 0, none⟩))] :: cl b32_ 100 [(Value.pointer (some ⟨en17_, 0, none⟩))] :: cl en17_ 216 [(Value.pointer (some ⟨pw18_, 0, none⟩)), (Value.pointer (some ⟨cb19_, 0, none⟩)), (Value.slice (some ⟨ub20_, 0, none⟩) 8 8)] :: cl cb19_ 244 [(Value.int .u32 (wsm prev (wgood (List.take k L))))] :: cl ub20_ 5 [c0, c1, c2, c3, c4, c5, c6, c7] :: cl b10_ 100 [(Value.pointer (some ⟨en17_, 0, none⟩))] :: F) := H246_
    have S249_ := Same.trans S229_ S247_
    refine S_list (T_val (v := (Value.tuple #[(Value.int .i64 nn238_), (Value.nilIface)])) (x_move rfl) ?_)
    refine S_list (T_val (v := (Value.int .i64 nn238_)) (by kernel_rfl) ?_)
    refine S_list (T_val (v := (Value.nilIface)) (by kernel_rfl) ?_)
    refine S_list (T_val (v := (Value.int .i64 nn238_)) (x_assign rfl) ?_)
    refine S_list (T_val (v := (Value.nilIface)) (x_assign rfl) ?_)
    refine wpList_nil ?_
    refine (X_then (hK236_ _ _ ?_))
    clear hK236_
    refine C_seq (fun K250_ hK250_ => ?_)
    refine C_reg ?_
    refine S_list (T_val (v := (Value.nilIface)) (x_move rfl) ?_)
    refine S_list (T_val (v := (Value.nilIface)) (x_assign rfl) ?_)
    refine wpList_nil ?_
    refine (X_then (hK250_ _ _ ?_))
    clear hK250_
    refine C_ret ?_
    refine R_any (v := (Value.nilIface)) (run_results1 rfl rfl) ⟨_, rfl, ?_⟩
    refine S_list (T_val (v := (Value.nilIface)) (x_assign rfl) ?_)
    refine wpList_nil ?_
    refine (X_then (hK234_ _ _ ?_))
    clear hK234_
    refine C_ret ?_
    refine R_N ?_
    refine leaves_skip Try.func101 rfl rfl (by kernel_rfl) ?_
    refine ⟨(Value.nilIface), run_results1 rfl rfl, ⟨_, rfl, ?_⟩⟩
    refine S_list (T_val (v := (Value.nilIface)) (x_assign rfl) ?_)
    refine wpList_nil ?_
    refine (X_then (hK230_ _ _ ?_))
    clear hK230_
    refine C_ret ?_
    refine R_any (v := (Value.nilIface)) (run_results1 rfl rfl) ⟨_, rfl, ?_⟩
    refine wpList_nil ?_
    refine (X_then (hK223_ _ _ ?_))
    clear hK223_
    refine C_seq (fun K251_ hK251_ => ?_)
    refine C_reg ?_
    refine S_list (T_val (v := (Value.pointer (some ⟨b3_, 0, none⟩))) (x_move rfl) ?_)
    refine S_list (T_val (v := (Value.pointer (some ⟨b3_, 0, none⟩))) (by kernel_rfl) ?_)
    refine S_list (T_val (v := (Value.pointer (some ⟨b3_, 0, none⟩))) (by kernel_rfl) ?_)
    refine S_list (T_val (v := V241_) (x_load1 rfl Try.underlying43 rfl ((Holds.rd H246_ 3 rfl) 0 V241_ rfl)) ?_)
    refine S_list (T_val (v := (Value.int .i64 (wbad (List.take k L) : Int))) (x_move rfl) ?_)
    refine S_list (T_val (v := V241_) (x_assign rfl) ?_)
    refine S_list (T_val (v := (Value.int .i64 (wbad (List.take k L) : Int))) (x_assign rfl) ?_)
    refine wpList_nil ?_
    refine (X_then (hK251_ _ _ ?_))
    clear hK251_
    refine C_ret ?_
    refine R_any (v := (Value.tuple #[V241_, (Value.int .i64 (wbad (List.take k L) : Int))])) (run_results2 rfl rfl rfl) ?_
    have H252_ : Holds w245_ (ro R :: sl 5 1 V241_ (List.length (os ++ pd)) (bytesV (os ++ pd)) :: F) := (Holds.erase (Holds.erase (Holds.erase (Holds.erase (Holds.erase (Holds.erase (Holds.erase (Holds.erase (Holds.erase (Holds.bring (Holds.bring H246_ 4 rfl) 1 rfl) 2) 2) 2) 2) 2) 2) 2) 2) 2)
    exact ⟨_, [sl 5 1 V241_ (List.length (os ++ pd)) (bytesV (os ++ pd))], rfl, ⟨V241_, (os ++ pd), (congrArg (fun l => Value.tuple (List.toArray l)) (lcons rfl (lcons (congrArg (Value.int .i64) ((by rw [List.take_of_length_le (by omega)]) : (wbad (List.take k L) : Int) = (wbad L : Int))) rfl))), rfl, (by rw [hos, List.take_of_length_le (by omega)])⟩, S249_, H252_⟩
end Go.Proofs.Ytgeggiebefonhaa
