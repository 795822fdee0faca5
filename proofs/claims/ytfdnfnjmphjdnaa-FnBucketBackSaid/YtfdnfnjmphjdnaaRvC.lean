/- What the functions over revisions come to: keys read back, and the first law. -/
import Derived.Test.YtfdnfnjmphjdnaaRvB
set_option linter.unusedVariables false
set_option linter.unusedSimpArgs false
namespace Go.Proofs.Ytfdnfnjmphjdnaa
open Go Go.RowKit Gw
theorem rvSameEq (R : HP) (u v : Value) (j k : Nat) (xs ys : List Int) (hu : RS R 1 u j (bytesV xs)) (hv : RS R 1 v k (bytesV ys)) (h : xs = ys) : Tri Try.prog 8 #[u, v] R [] (fun r post => r = .bool true ∧ post = []) :=
  (rvSameRS R u v j k xs ys hu hv).mono fun r post ⟨e, p⟩ => ⟨by rw [e, h]; simp, p⟩

set_option maxHeartbeats 400000 in
theorem bytesRevIn (R : HP) (b1 b2 : Nat) (x y : Int) (v : Value) (m s : Int) (hm : 0 ≤ m) (hm2 : m < 9223372036854775808) (hs : 0 ≤ s) (hs2 : s < 9223372036854775808) (hv : RS R 1 v 17 (bytesV (rvb (IntKind.u64.wrap m) (IntKind.u64.wrap s) ++ []))) :
    Tri Try.prog 58 #[(Value.pointer (some ⟨b1, 0, none⟩)), (Value.pointer (some ⟨b2, 0, none⟩))] R [cl b1 25 [v], cl b2 23 [.int .i64 x, .int .i64 y]] (fun r post => r = .tuple #[] ∧ post = [cl b1 25 [v], cl b2 23 [.int .i64 m, .int .i64 s]]) := by
  obtain ⟨a, cap, rfl, hcap⟩ := RS.len hv
  refine Tri.into (n := 5) (al := [(Value.pointer (some ⟨b1, 0, none⟩)), (Value.pointer (some ⟨b2, 0, none⟩))]) Try.func58 rfl Try.ntmps58 rfl rfl fun w F H => ?_
  replace H : Holds w (ro R :: cl b1 25 [(Value.slice a 17 cap)] :: cl b2 23 [(Value.int .i64 x), (Value.int .i64 y)] :: F) := H
  refine C_reg ?_
  refine S_list (T_val (v := (Value.slice a 17 cap)) (x_load1 rfl Try.underlying25 rfl ((Holds.rd H 1 rfl) 0 (Value.slice a 17 cap) rfl)) ?_)
  refine S_list (T_callW (al := [(Value.slice a 17 cap)]) rfl rfl cb59 (Calls.into (n := 6) (al := [(Value.slice a 17 cap)]) Try.func59 rfl Try.ntmps59 rfl rfl ?_))
  refine C_seq (fun K1_ hK1_ => ?_)
  refine C_reg ?_
  refine S_list (T_alloc z61 H ?_)
  intro b2_ w3_ S5_ H4_
  replace H4_ : Holds w3_ (cl b2_ 61 [(Value.int .i64 0), (Value.int .i64 0)] :: ro R :: cl b1 25 [(Value.slice a 17 cap)] :: cl b2 23 [(Value.int .i64 x), (Value.int .i64 y)] :: F) := H4_
  have S6_ := Same.trans (Same.refl w) S5_
  refine wpList_nil ?_
  refine (X_then (hK1_ _ _ ?_))
  clear hK1_
  refine C_seq (fun K7_ hK7_ => ?_)
  refine C_reg ?_
  refine S_list (T_val (v := (Value.slice a 17 cap)) (x_move rfl) ?_)
  have H8_ : Holds w3_ (ro R :: cl b2_ 61 [(Value.int .i64 0), (Value.int .i64 0)] :: cl b1 25 [(Value.slice a 17 cap)] :: cl b2 23 [(Value.int .i64 x), (Value.int .i64 y)] :: F) := (Holds.bring H4_ 1 rfl)
  refine S_list (T_call (al := [(Value.slice a 17 cap)]) (pre := []) (F := cl b2_ 61 [(Value.int .i64 0), (Value.int .i64 0)] :: cl b1 25 [(Value.slice a 17 cap)] :: cl b2 23 [(Value.int .i64 x), (Value.int .i64 y)] :: F) rfl rfl cb49 (b2bk17 R (Value.slice a 17 cap) m s hm hm2 hs hs2 hv) H8_ ?_)
  rintro v12_ p13_ w9_ ⟨rfl, rfl⟩ S11_ H10_
  replace H10_ : Holds w9_ (ro R :: cl b2_ 61 [(Value.int .i64 0), (Value.int .i64 0)] :: cl b1 25 [(Value.slice a 17 cap)] :: cl b2 23 [(Value.int .i64 x), (Value.int .i64 y)] :: F) := H10_
  have S14_ := Same.trans S6_ S11_
  refine S_list (T_val (v := (Value.agg #[(Value.int .i64 m), (Value.int .i64 s)])) (by kernel_rfl) ?_)
  refine S_list0 (T_storeN (vs := [(Value.int .i64 m), (Value.int .i64 s)]) rfl rfl z61 rfl (by simp [Value.oneCell']) H10_ 1 rfl (Nat.le_of_ble_eq_true (by rfl)) ?_)
  intro w15_ S17_ H16_
  replace H16_ : Holds w15_ (ro R :: cl b2_ 61 [(Value.int .i64 m), (Value.int .i64 s)] :: cl b1 25 [(Value.slice a 17 cap)] :: cl b2 23 [(Value.int .i64 x), (Value.int .i64 y)] :: F) := H16_
  have S18_ := Same.trans S14_ S17_
  refine wpList_nil ?_
  refine (X_then (hK7_ _ _ ?_))
  clear hK7_
  refine C_ret ?_
  refine R_any (v := (Value.agg #[(Value.int .i64 m), (Value.int .i64 s)])) (run_results1 rfl ⟨_, rfl, load_resN Try.underlying61 rfl z61 rfl (vs := [(Value.int .i64 m), (Value.int .i64 s)]) (Holds.cl_cells H16_ 1 rfl 0 rfl)⟩) ⟨_, rfl, ?_⟩
  refine S_list (T_callW (al := [(Value.agg #[(Value.int .i64 m), (Value.int .i64 s)])]) rfl rfl cb50 (Calls.into (n := 8) (al := [(Value.agg #[(Value.int .i64 m), (Value.int .i64 s)])]) Try.func50 rfl Try.ntmps50 rfl rfl ?_))
  refine C_seq (fun K19_ hK19_ => ?_)
  refine C_reg ?_
  refine S_list (T_box (v := (Value.agg #[(Value.int .i64 m), (Value.int .i64 s)])) rfl H16_ ?_)
  intro b20_ w21_ S23_ H22_
  replace H22_ : Holds w21_ (cl b20_ 61 [(Value.int .i64 m), (Value.int .i64 s)] :: ro R :: cl b2_ 61 [(Value.int .i64 m), (Value.int .i64 s)] :: cl b1 25 [(Value.slice a 17 cap)] :: cl b2 23 [(Value.int .i64 x), (Value.int .i64 y)] :: F) := H22_
  have S24_ := Same.trans S18_ S23_
  refine S_list (T_alloc z23 H22_ ?_)
  intro b25_ w26_ S28_ H27_
  replace H27_ : Holds w26_ (cl b25_ 23 [(Value.int .i64 0), (Value.int .i64 0)] :: cl b20_ 61 [(Value.int .i64 m), (Value.int .i64 s)] :: ro R :: cl b2_ 61 [(Value.int .i64 m), (Value.int .i64 s)] :: cl b1 25 [(Value.slice a 17 cap)] :: cl b2 23 [(Value.int .i64 x), (Value.int .i64 y)] :: F) := H27_
  have S29_ := Same.trans S24_ S28_
  refine wpList_nil ?_
  refine (X_then (hK19_ _ _ ?_))
  clear hK19_
  refine C_seq (fun K30_ hK30_ => ?_)
  refine C_reg ?_
  refine S_list (T_val (v := (Value.pointer (some ⟨b20_, 0, none⟩))) (by kernel_rfl) ?_)
  refine S_list (T_val (v := (Value.int .i64 m)) (x_load1 rfl Try.underlying2 rfl ((Holds.rd H27_ 1 rfl) 0 (Value.int .i64 m) rfl)) ?_)
  refine S_list (T_val (v := (Value.pointer (some ⟨b20_, 1, none⟩))) (by kernel_rfl) ?_)
  refine S_list (T_val (v := (Value.int .i64 s)) (x_load1 rfl Try.underlying2 rfl ((Holds.rd H27_ 1 rfl) 1 (Value.int .i64 s) rfl)) ?_)
  refine S_list (T_val (v := (Value.agg #[(Value.int .i64 m), (Value.int .i64 s)])) (by kernel_rfl) ?_)
  refine S_list0 (T_storeN (vs := [(Value.int .i64 m), (Value.int .i64 s)]) rfl rfl z23 rfl (by simp [Value.oneCell']) H27_ 0 rfl (Nat.le_of_ble_eq_true (by rfl)) ?_)
  intro w31_ S33_ H32_
  replace H32_ : Holds w31_ (cl b25_ 23 [(Value.int .i64 m), (Value.int .i64 s)] :: cl b20_ 61 [(Value.int .i64 m), (Value.int .i64 s)] :: ro R :: cl b2_ 61 [(Value.int .i64 m), (Value.int .i64 s)] :: cl b1 25 [(Value.slice a 17 cap)] :: cl b2 23 [(Value.int .i64 x), (Value.int .i64 y)] :: F) := H32_
  have S34_ := Same.trans S29_ S33_
  refine wpList_nil ?_
  refine (X_then (hK30_ _ _ ?_))
  clear hK30_
  refine C_ret ?_
  refine R_any (v := (Value.agg #[(Value.int .i64 m), (Value.int .i64 s)])) (run_results1 rfl ⟨_, rfl, load_resN Try.underlying23 rfl z23 rfl (vs := [(Value.int .i64 m), (Value.int .i64 s)]) (Holds.cl_cells H32_ 0 rfl 0 rfl)⟩) ⟨_, rfl, ?_⟩
  refine S_list0 (T_storeN (vs := [(Value.int .i64 m), (Value.int .i64 s)]) rfl rfl z23 rfl (by simp [Value.oneCell']) H32_ 5 rfl (Nat.le_of_ble_eq_true (by rfl)) ?_)
  intro w35_ S37_ H36_
  replace H36_ : Holds w35_ (cl b25_ 23 [(Value.int .i64 m), (Value.int .i64 s)] :: cl b20_ 61 [(Value.int .i64 m), (Value.int .i64 s)] :: ro R :: cl b2_ 61 [(Value.int .i64 m), (Value.int .i64 s)] :: cl b1 25 [(Value.slice a 17 cap)] :: cl b2 23 [(Value.int .i64 m), (Value.int .i64 s)] :: F) := H36_
  have S38_ := Same.trans S34_ S37_
  refine wpList_nil ?_
  refine R_0 rfl ?_
  have H39_ : Holds w35_ (ro R :: cl b1 25 [(Value.slice a 17 cap)] :: cl b2 23 [(Value.int .i64 m), (Value.int .i64 s)] :: F) := (Holds.erase (Holds.erase (Holds.erase (Holds.bring (Holds.bring (Holds.bring H36_ 5 rfl) 5 rfl) 4 rfl) 3) 3) 3)
  exact ⟨_, [cl b1 25 [(Value.slice a 17 cap)], cl b2 23 [(Value.int .i64 m), (Value.int .i64 s)]], rfl, ⟨rfl, rfl⟩, S38_, H39_⟩

set_option maxHeartbeats 400000 in
theorem bytesRev (R : HP) (v : Value) (m s : Int) (hm : 0 ≤ m) (hm2 : m < 9223372036854775808) (hs : 0 ≤ s) (hs2 : s < 9223372036854775808) (hv : RS R 1 v 17 (bytesV (rvb (IntKind.u64.wrap m) (IntKind.u64.wrap s) ++ []))) :
    Tri Try.prog 33 #[v] R [] (fun r post => r = .tuple #[.agg #[.int .i64 m, .int .i64 s], .bool true] ∧ post = []) := by
  obtain ⟨a, cap, rfl, hcap⟩ := RS.len hv
  refine Tri.into (n := 11) (al := [(Value.slice a 17 cap)]) Try.func33 rfl Try.ntmps33 rfl rfl fun w F H => ?_
  replace H : Holds w (ro R :: F) := H
  refine C_seq (fun K1_ hK1_ => ?_)
  refine C_reg ?_
  refine S_list (T_box (v := (Value.slice a 17 cap)) rfl H ?_)
  intro b2_ w3_ S5_ H4_
  replace H4_ : Holds w3_ (cl b2_ 25 [(Value.slice a 17 cap)] :: ro R :: F) := H4_
  have S6_ := Same.trans (Same.refl w) S5_
  refine S_list (T_alloc z23 H4_ ?_)
  intro b7_ w8_ S10_ H9_
  replace H9_ : Holds w8_ (cl b7_ 23 [(Value.int .i64 0), (Value.int .i64 0)] :: cl b2_ 25 [(Value.slice a 17 cap)] :: ro R :: F) := H9_
  have S11_ := Same.trans S6_ S10_
  refine S_list (T_val (v := (Value.bool false)) (x_assign rfl) ?_)
  refine wpList_nil ?_
  refine (X_then (hK1_ _ _ ?_))
  clear hK1_
  refine C_seq (fun K12_ hK12_ => ?_)
  refine C_reg ?_
  refine S_list (T_val (v := (Value.agg #[(Value.int .i64 0), (Value.int .i64 0)])) (by kernel_rfl) ?_)
  refine S_list (T_alloc z23 H9_ ?_)
  intro b13_ w14_ S16_ H15_
  replace H15_ : Holds w14_ (cl b13_ 23 [(Value.int .i64 0), (Value.int .i64 0)] :: cl b7_ 23 [(Value.int .i64 0), (Value.int .i64 0)] :: cl b2_ 25 [(Value.slice a 17 cap)] :: ro R :: F) := H15_
  have S17_ := Same.trans S11_ S16_
  refine S_list0 (T_storeN (vs := [(Value.int .i64 0), (Value.int .i64 0)]) rfl rfl z23 rfl (by simp [Value.oneCell']) H15_ 0 rfl (Nat.le_of_ble_eq_true (by rfl)) ?_)
  intro w18_ S20_ H19_
  replace H19_ : Holds w18_ (cl b13_ 23 [(Value.int .i64 0), (Value.int .i64 0)] :: cl b7_ 23 [(Value.int .i64 0), (Value.int .i64 0)] :: cl b2_ 25 [(Value.slice a 17 cap)] :: ro R :: F) := H19_
  have S21_ := Same.trans S17_ S20_
  refine wpList_nil ?_
  refine (X_then (hK12_ _ _ ?_))
  clear hK12_
  refine C_seq (fun K22_ hK22_ => ?_)
  refine C_reg ?_
  refine S_list (T_val (v := (Value.func (.func 58) #[] #[(Value.pointer (some ⟨b2_, 0, none⟩)), (Value.pointer (some ⟨b13_, 0, none⟩))])) (by kernel_rfl) ?_)
  have H23_ : Holds w18_ (ro R :: cl b2_ 25 [(Value.slice a 17 cap)] :: cl b13_ 23 [(Value.int .i64 0), (Value.int .i64 0)] :: cl b7_ 23 [(Value.int .i64 0), (Value.int .i64 0)] :: F) := (Holds.bring (Holds.bring (Holds.bring H19_ 0 rfl) 2 rfl) 3 rfl)
  refine S_list (T_call (al := [(Value.func (.func 58) #[] #[(Value.pointer (some ⟨b2_, 0, none⟩)), (Value.pointer (some ⟨b13_, 0, none⟩))])]) (pre := [cl b2_ 25 [(Value.slice a 17 cap)], cl b13_ 23 [(Value.int .i64 0), (Value.int .i64 0)]]) (F := cl b7_ 23 [(Value.int .i64 0), (Value.int .i64 0)] :: F) rfl rfl cb47 (fine_ret 58 [(Value.pointer (some ⟨b2_, 0, none⟩)), (Value.pointer (some ⟨b13_, 0, none⟩))] R [cl b2_ 25 [(Value.slice a 17 cap)], cl b13_ 23 [(Value.int .i64 0), (Value.int .i64 0)]] _ cb58 (bytesRevIn R b2_ b13_ 0 0 (Value.slice a 17 cap) m s hm hm2 hs hs2 hv)) H23_ ?_)
  rintro v27_ p28_ w24_ ⟨rfl, _, ⟨rfl, rfl⟩⟩ S26_ H25_
  replace H25_ : Holds w24_ (ro R :: cl b2_ 25 [(Value.slice a 17 cap)] :: cl b13_ 23 [(Value.int .i64 m), (Value.int .i64 s)] :: cl b7_ 23 [(Value.int .i64 0), (Value.int .i64 0)] :: F) := H25_
  have S29_ := Same.trans S21_ S26_
  refine S_list (T_val (v := (Value.bool true)) (x_assign rfl) ?_)
  refine wpList_nil ?_
  refine (X_then (hK22_ _ _ ?_))
  clear hK22_
  refine C_seq (fun K30_ hK30_ => ?_)
  refine C_reg ?_
  refine S_list (T_val (v := (Value.agg #[(Value.int .i64 m), (Value.int .i64 s)])) (x_loadN (vs := [(Value.int .i64 m), (Value.int .i64 s)]) rfl Try.underlying23 rfl z23 rfl (Rd.cells (Holds.rd H25_ 2 rfl) 0 rfl)) ?_)
  refine S_list (T_val (v := (Value.bool true)) (x_move rfl) ?_)
  refine S_list0 (T_storeN (vs := [(Value.int .i64 m), (Value.int .i64 s)]) rfl rfl z23 rfl (by simp [Value.oneCell']) H25_ 3 rfl (Nat.le_of_ble_eq_true (by rfl)) ?_)
  intro w31_ S33_ H32_
  replace H32_ : Holds w31_ (ro R :: cl b2_ 25 [(Value.slice a 17 cap)] :: cl b13_ 23 [(Value.int .i64 m), (Value.int .i64 s)] :: cl b7_ 23 [(Value.int .i64 m), (Value.int .i64 s)] :: F) := H32_
  have S34_ := Same.trans S29_ S33_
  refine S_list (T_val (v := (Value.bool true)) (x_assign rfl) ?_)
  refine wpList_nil ?_
  refine (X_then (hK30_ _ _ ?_))
  clear hK30_
  refine C_ret ?_
  refine R_any (v := (Value.tuple #[(Value.agg #[(Value.int .i64 m), (Value.int .i64 s)]), (Value.bool true)])) (run_results2 rfl ⟨_, rfl, load_resN Try.underlying23 rfl z23 rfl (vs := [(Value.int .i64 m), (Value.int .i64 s)]) (Holds.cl_cells H32_ 3 rfl 0 rfl)⟩ rfl) ?_
  have H35_ : Holds w31_ (ro R :: F) := (Holds.erase (Holds.erase (Holds.erase (Holds.bring H32_ 0 rfl) 1) 1) 1)
  exact ⟨_, [], rfl, ⟨rfl, rfl⟩, S34_, H35_⟩

set_option maxHeartbeats 400000 in
theorem rvLive (R : HP) :
    Tri Try.prog 11 #[] R [] (fun r post => r = .bool true ∧ post = []) := by
  refine Tri.into (n := 15) (al := []) Try.func11 rfl Try.ntmps11 rfl rfl fun w F H => ?_
  replace H : Holds w (ro R :: F) := H
  refine C_seq (fun K1_ hK1_ => ?_)
  refine C_reg ?_
  refine S_list (T_val (v := (Value.bool false)) (x_assign rfl) ?_)
  refine wpList_nil ?_
  refine (X_then (hK1_ _ _ ?_))
  clear hK1_
  refine C_seq (fun K2_ hK2_ => ?_)
  refine C_reg ?_
  refine S_list (T_val (v := (Value.agg #[(Value.int .i64 1), (Value.int .i64 2)])) (by kernel_rfl) ?_)
  refine S_list (T_call (al := [(Value.agg #[(Value.int .i64 1), (Value.int .i64 2)])]) (pre := []) (F := F) rfl rfl cb9 (revBytes R 1 2) H ?_)
  rintro v6_ p7_ w3_ rfl S5_ H4_
  replace H4_ : Holds w3_ (ro R :: sl 5 1 v6_ 17 (bytesV (rvb (IntKind.u64.wrap 1) (IntKind.u64.wrap 2))) :: F) := H4_
  have S8_ := Same.trans (Same.refl w) S5_
  have H9_ : Holds w3_ (ro R :: sl 5 1 v6_ 17 (bytesV (rvb (IntKind.u64.wrap 1) (IntKind.u64.wrap 2) ++ [])) :: F) := cast2 (P := fun (c__ : List Value) (k__ : Nat) => Holds w3_ (ro R :: sl 5 1 v6_ k__ c__ :: F)) (by rw [List.append_nil] : bytesV (rvb (IntKind.u64.wrap 1) (IntKind.u64.wrap 2)) = bytesV (rvb (IntKind.u64.wrap 1) (IntKind.u64.wrap 2) ++ [])) (rfl : 17 = 17) H4_
  refine S_list (T_call (al := [v6_]) (pre := [sl 5 1 v6_ 17 (bytesV (rvb (IntKind.u64.wrap 1) (IntKind.u64.wrap 2) ++ []))]) (F := F) rfl rfl cb33 (Tri.lend (fun h0 a0 d0 => bytesRev (un R h0) v6_ 1 2 (by omega) (by omega) (by omega) (by omega) (sl_RS a0 (Sub.un_right d0)))) H9_ ?_)
  rintro v13_ p14_ w10_ ⟨_, rfl, rfl, rfl⟩ S12_ H11_
  replace H11_ : Holds w10_ (ro R :: sl 5 1 v6_ 17 (bytesV (rvb (IntKind.u64.wrap 1) (IntKind.u64.wrap 2) ++ [])) :: F) := H11_
  have S15_ := Same.trans S8_ S12_
  refine S_list (T_val (v := (Value.tuple #[(Value.agg #[(Value.int .i64 1), (Value.int .i64 2)]), (Value.bool true)])) (x_move rfl) ?_)
  refine S_list (T_val (v := (Value.agg #[(Value.int .i64 1), (Value.int .i64 2)])) (by kernel_rfl) ?_)
  refine S_list (T_val (v := (Value.bool true)) (by kernel_rfl) ?_)
  refine S_list (T_alloc z23 H11_ ?_)
  intro b16_ w17_ S19_ H18_
  replace H18_ : Holds w17_ (cl b16_ 23 [(Value.int .i64 0), (Value.int .i64 0)] :: ro R :: sl 5 1 v6_ 17 (bytesV (rvb (IntKind.u64.wrap 1) (IntKind.u64.wrap 2) ++ [])) :: F) := H18_
  have S20_ := Same.trans S15_ S19_
  refine S_list0 (T_storeN (vs := [(Value.int .i64 1), (Value.int .i64 2)]) rfl rfl z23 rfl (by simp [Value.oneCell']) H18_ 0 rfl (Nat.le_of_ble_eq_true (by rfl)) ?_)
  intro w21_ S23_ H22_
  replace H22_ : Holds w21_ (cl b16_ 23 [(Value.int .i64 1), (Value.int .i64 2)] :: ro R :: sl 5 1 v6_ 17 (bytesV (rvb (IntKind.u64.wrap 1) (IntKind.u64.wrap 2) ++ [])) :: F) := H22_
  have S24_ := Same.trans S20_ S23_
  refine S_list (T_val (v := (Value.bool true)) (x_assign rfl) ?_)
  refine wpList_nil ?_
  refine (X_then (hK2_ _ _ ?_))
  clear hK2_
  refine C_seq (fun K25_ hK25_ => ?_)
  refine C_reg ?_
  refine S_list (T_val (v := (Value.bool true)) (x_move rfl) ?_)
  refine S_list (T_val (v := (Value.bool true)) (x_move rfl) ?_)
  refine S_yes (j := 1) (dj := 10) (b := true) rfl rfl rfl (T_val (v := (Value.agg #[(Value.int .i64 1), (Value.int .i64 2)])) (x_loadN (vs := [(Value.int .i64 1), (Value.int .i64 2)]) rfl Try.underlying23 rfl z23 rfl (Rd.cells (Holds.rd H22_ 0 rfl) 0 rfl)) ?_)
  refine S_yes (j := 1) (dj := 10) (b := true) rfl rfl rfl (T_val (v := (Value.agg #[(Value.int .i64 1), (Value.int .i64 2)])) (by kernel_rfl) ?_)
  refine S_yes (j := 1) (dj := 10) (b := true) rfl rfl rfl (T_val (v := (Value.bool true)) (x_cast (x_eqS rfl rfl (by kernel_rfl) (eq_struct Try.underlying23 (by kernel_rfl) (eqf_cons rfl (run_part1 Try.underlying2 rfl rfl) (run_part1 Try.underlying2 rfl rfl) (eq_int Try.underlying2) (eqf_cons rfl (run_part1 Try.underlying2 rfl rfl) (run_part1 Try.underlying2 rfl rfl) (eq_int Try.underlying2) (eqf_nil))))) (by simp)) ?_)
  refine S_list (T_pickT (v := (Value.bool true)) rfl rfl ?_)
  refine S_list (T_val (v := (Value.bool true)) (x_assign rfl) ?_)
  refine wpList_nil ?_
  refine (X_then (hK25_ _ _ ?_))
  clear hK25_
  refine C_ret ?_
  refine R_any (v := (Value.bool true)) (run_results1 rfl rfl) ?_
  have H26_ : Holds w21_ (ro R :: F) := (Holds.erase (Holds.erase (Holds.bring H22_ 1 rfl) 1) 1)
  exact ⟨_, [], rfl, ⟨rfl, rfl⟩, S24_, H26_⟩

set_option maxHeartbeats 400000 in
theorem fnRevBytes (R : HP) (m s : Int) :
    Tri Try.prog 3 #[(Value.agg #[(Value.int .i64 m), (Value.int .i64 s)])] R [] (fun r post => r = .bool true ∧ post = []) := by
  refine Tri.into (n := 18) (al := [(Value.agg #[(Value.int .i64 m), (Value.int .i64 s)])]) Try.func3 rfl Try.ntmps3 rfl rfl fun w F H => ?_
  replace H : Holds w (ro R :: F) := H
  refine C_seq (fun K1_ hK1_ => ?_)
  refine C_reg ?_
  refine S_list (T_box (v := (Value.agg #[(Value.int .i64 m), (Value.int .i64 s)])) rfl H ?_)
  intro b2_ w3_ S5_ H4_
  replace H4_ : Holds w3_ (cl b2_ 23 [(Value.int .i64 m), (Value.int .i64 s)] :: ro R :: F) := H4_
  have S6_ := Same.trans (Same.refl w) S5_
  refine S_list (T_val (v := (Value.bool false)) (x_assign rfl) ?_)
  refine wpList_nil ?_
  refine (X_then (hK1_ _ _ ?_))
  clear hK1_
  refine C_seq (fun K7_ hK7_ => ?_)
  refine A_start (S := fun w => Rd b2_ [(Value.int .i64 m), (Value.int .i64 s)] w ∧ Sub R (hp w)) (N := 16) foll rfl rfl ?_
  have H9_ : Holds w3_.drew (cl b2_ 23 [(Value.int .i64 m), (Value.int .i64 s)] :: ro R :: F) := H4_
  refine A_take 0 (ls' := #[true, false, false, false, false, false, false, false, false, false, false, false, false, false, false, false]) (v := (Value.agg #[(Value.int .i64 m), (Value.int .i64 s)])) rfl (by kernel_rfl) (by kernel_rfl) (by kernel_rfl) (by kernel_rfl) (fun _ _ _ h => h) (fun w hS => x_loadN (vs := [(Value.int .i64 m), (Value.int .i64 s)]) rfl Try.underlying23 rfl z23 rfl (Rd.cells hS.1 0 rfl)) ⟨Holds.rd H9_ 0 rfl, Holds.ro_at H9_ 1 rfl⟩ ?_
  refine A_take 2 (ls' := #[true, false, true, false, false, false, false, false, false, false, false, false, false, false, false, false]) (v := (Value.pointer (some ⟨b2_, 0, none⟩))) rfl (by kernel_rfl) (by kernel_rfl) (by kernel_rfl) (by kernel_rfl) (fun _ _ _ h => h) (fun w hS => by kernel_rfl) ⟨Holds.rd H9_ 0 rfl, Holds.ro_at H9_ 1 rfl⟩ ?_
  refine A_take 3 (ls' := #[true, false, true, true, false, false, false, false, false, false, false, false, false, false, false, false]) (v := (Value.int .i64 m)) rfl (by kernel_rfl) (by kernel_rfl) (by kernel_rfl) (by kernel_rfl) (fun _ _ _ h => h) (fun w hS => x_load1 rfl Try.underlying2 rfl (hS.1 0 (Value.int .i64 m) rfl)) ⟨Holds.rd H9_ 0 rfl, Holds.ro_at H9_ 1 rfl⟩ ?_
  refine A_take 7 (ls' := #[true, false, true, true, false, false, false, true, false, false, false, false, false, false, false, false]) (v := (Value.pointer (some ⟨b2_, 1, none⟩))) rfl (by kernel_rfl) (by kernel_rfl) (by kernel_rfl) (by kernel_rfl) (fun _ _ _ h => h) (fun w hS => by kernel_rfl) ⟨Holds.rd H9_ 0 rfl, Holds.ro_at H9_ 1 rfl⟩ ?_
  refine A_take 8 (ls' := #[true, false, true, true, false, false, false, true, true, false, false, false, false, false, false, false]) (v := (Value.int .i64 s)) rfl (by kernel_rfl) (by kernel_rfl) (by kernel_rfl) (by kernel_rfl) (fun _ _ _ h => h) (fun w hS => x_load1 rfl Try.underlying2 rfl (hS.1 1 (Value.int .i64 s) rfl)) ⟨Holds.rd H9_ 0 rfl, Holds.ro_at H9_ 1 rfl⟩ ?_
  refine A_ready (i := 1) (rs := [5]) (by kernel_rfl) ?_
  refine AllR.cons ?_ ?_
  · skip
    have H10_ : Holds w3_.drew (ro R :: cl b2_ 23 [(Value.int .i64 m), (Value.int .i64 s)] :: F) := (Holds.bring H9_ 1 rfl)
    refine A_op (ls' := #[true, true, true, true, false, false, false, true, true, false, false, false, false, false, false, false]) rfl (by kernel_rfl) (T_call (al := [(Value.agg #[(Value.int .i64 m), (Value.int .i64 s)])]) (pre := []) (F := cl b2_ 23 [(Value.int .i64 m), (Value.int .i64 s)] :: F) rfl rfl cb9 (revBytes R m s) H10_ ?_)
    rintro v14_ p15_ w11_ rfl S13_ H12_
    replace H12_ : Holds w11_ (ro R :: sl 5 1 v14_ 17 (bytesV (rvb (IntKind.u64.wrap m) (IntKind.u64.wrap s))) :: cl b2_ 23 [(Value.int .i64 m), (Value.int .i64 s)] :: F) := H12_
    have S16_ := Same.trans (Same.trans S6_ (Same.drew _)) S13_
    refine ⟨⟨Holds.rd H12_ 2 rfl, Holds.ro_at H12_ 0 rfl⟩, ?_⟩
    refine A_ready (i := 4) (rs := [5]) (by kernel_rfl) ?_
    refine AllR.cons ?_ ?_
    · skip
      refine A_op (ls' := #[true, true, true, true, true, false, false, true, true, false, false, false, false, false, false, false]) rfl (by kernel_rfl) (T_call (al := [(Value.int .i64 m)]) (pre := []) (F := sl 5 1 v14_ 17 (bytesV (rvb (IntKind.u64.wrap m) (IntKind.u64.wrap s))) :: cl b2_ 23 [(Value.int .i64 m), (Value.int .i64 s)] :: F) rfl rfl cb10 (rvMain R m) H12_ ?_)
      rintro v20_ p21_ w17_ rfl S19_ H18_
      replace H18_ : Holds w17_ (ro R :: sl 5 1 v20_ 8 (bytesV (be8 (IntKind.u64.wrap m))) :: sl 5 1 v14_ 17 (bytesV (rvb (IntKind.u64.wrap m) (IntKind.u64.wrap s))) :: cl b2_ 23 [(Value.int .i64 m), (Value.int .i64 s)] :: F) := H18_
      have S22_ := Same.trans S16_ S19_
      refine ⟨⟨Holds.rd H18_ 3 rfl, Holds.ro_at H18_ 0 rfl⟩, ?_⟩
      refine A_ready (i := 5) (rs := []) (by kernel_rfl) ?_
      refine AllR.cons ?_ AllR.nil
      refine A_op (ls' := #[true, true, true, true, true, true, false, true, true, false, false, false, false, false, false, false]) rfl (by kernel_rfl) (T_new (obj := .cells #[(Value.int .u8 95)] 5) (f := fun b => .slice (some ⟨b, 0, none⟩) 1 1) (A := fun b => cl b 5 [(Value.int .u8 95)]) (by kernel_rfl) (fun l h => h.alloc _ _) H18_ ?_)
      intro b23_ w24_ S26_ H25_
      replace H25_ : Holds w24_ (cl b23_ 5 [(Value.int .u8 95)] :: ro R :: sl 5 1 v20_ 8 (bytesV (be8 (IntKind.u64.wrap m))) :: sl 5 1 v14_ 17 (bytesV (rvb (IntKind.u64.wrap m) (IntKind.u64.wrap s))) :: cl b2_ 23 [(Value.int .i64 m), (Value.int .i64 s)] :: F) := H25_
      have S27_ := Same.trans S22_ S26_
      refine ⟨⟨Holds.rd H25_ 4 rfl, Holds.ro_at H25_ 1 rfl⟩, ?_⟩
      refine A_ready (i := 6) (rs := []) (by kernel_rfl) ?_
      refine AllR.cons ?_ AllR.nil
      refine A_op (ls' := #[true, true, true, true, true, true, true, true, true, false, false, false, false, false, false, false]) rfl (by kernel_rfl) (T_append rfl rfl Try.underlying25 z5 rfl (by decide) H25_ 2 rfl (Holds.cl_src H25_ 0 rfl Try.underlying25 (by simp [Value.oneCell']) rfl) (by omega) ?_)
      intro v28_ w29_ S31_ H30_
      replace H30_ : Holds w29_ (cl b23_ 5 [(Value.int .u8 95)] :: ro R :: sl 5 1 v28_ 9 ((bytesV (be8 (IntKind.u64.wrap m))) ++ [(Value.int .u8 95)]) :: sl 5 1 v14_ 17 (bytesV (rvb (IntKind.u64.wrap m) (IntKind.u64.wrap s))) :: cl b2_ 23 [(Value.int .i64 m), (Value.int .i64 s)] :: F) := H30_
      have S32_ := Same.trans S27_ S31_
      refine ⟨⟨Holds.rd H30_ 4 rfl, Holds.ro_at H30_ 1 rfl⟩, ?_⟩
      refine A_ready (i := 9) (rs := []) (by kernel_rfl) ?_
      refine AllR.cons ?_ AllR.nil
      have H33_ : Holds w29_ (ro R :: cl b23_ 5 [(Value.int .u8 95)] :: sl 5 1 v28_ 9 ((bytesV (be8 (IntKind.u64.wrap m))) ++ [(Value.int .u8 95)]) :: sl 5 1 v14_ 17 (bytesV (rvb (IntKind.u64.wrap m) (IntKind.u64.wrap s))) :: cl b2_ 23 [(Value.int .i64 m), (Value.int .i64 s)] :: F) := (Holds.bring H30_ 1 rfl)
      refine A_op (ls' := #[true, true, true, true, true, true, true, true, true, true, false, false, false, false, false, false]) rfl (by kernel_rfl) (T_call (al := [(Value.int .i64 s)]) (pre := []) (F := cl b23_ 5 [(Value.int .u8 95)] :: sl 5 1 v28_ 9 ((bytesV (be8 (IntKind.u64.wrap m))) ++ [(Value.int .u8 95)]) :: sl 5 1 v14_ 17 (bytesV (rvb (IntKind.u64.wrap m) (IntKind.u64.wrap s))) :: cl b2_ 23 [(Value.int .i64 m), (Value.int .i64 s)] :: F) rfl rfl cb10 (rvMain R s) H33_ ?_)
      rintro v37_ p38_ w34_ rfl S36_ H35_
      replace H35_ : Holds w34_ (ro R :: sl 5 1 v37_ 8 (bytesV (be8 (IntKind.u64.wrap s))) :: cl b23_ 5 [(Value.int .u8 95)] :: sl 5 1 v28_ 9 ((bytesV (be8 (IntKind.u64.wrap m))) ++ [(Value.int .u8 95)]) :: sl 5 1 v14_ 17 (bytesV (rvb (IntKind.u64.wrap m) (IntKind.u64.wrap s))) :: cl b2_ 23 [(Value.int .i64 m), (Value.int .i64 s)] :: F) := H35_
      have S39_ := Same.trans S32_ S36_
      refine ⟨⟨Holds.rd H35_ 5 rfl, Holds.ro_at H35_ 0 rfl⟩, ?_⟩
      refine A_ready (i := 10) (rs := []) (by kernel_rfl) ?_
      refine AllR.cons ?_ AllR.nil
      refine A_op (ls' := #[true, true, true, true, true, true, true, true, true, true, true, false, false, false, false, false]) rfl (by kernel_rfl) (T_append rfl rfl Try.underlying25 z5 rfl (by decide) H35_ 3 rfl (Holds.sl_src H35_ 1 rfl Try.underlying25 (by simp [bytesV, Value.oneCell'])) (by omega) ?_)
      intro v40_ w41_ S43_ H42_
      replace H42_ : Holds w41_ (ro R :: sl 5 1 v37_ 8 (bytesV (be8 (IntKind.u64.wrap s))) :: cl b23_ 5 [(Value.int .u8 95)] :: sl 5 1 v40_ 17 (((bytesV (be8 (IntKind.u64.wrap m))) ++ [(Value.int .u8 95)]) ++ (bytesV (be8 (IntKind.u64.wrap s)))) :: sl 5 1 v14_ 17 (bytesV (rvb (IntKind.u64.wrap m) (IntKind.u64.wrap s))) :: cl b2_ 23 [(Value.int .i64 m), (Value.int .i64 s)] :: F) := H42_
      have S44_ := Same.trans S39_ S43_
      refine ⟨⟨Holds.rd H42_ 5 rfl, Holds.ro_at H42_ 0 rfl⟩, ?_⟩
      refine A_ready (i := 11) (rs := []) (by kernel_rfl) ?_
      refine AllR.cons ?_ AllR.nil
      have H45_ : Holds w41_ (ro R :: sl 5 1 v37_ 8 (bytesV (be8 (IntKind.u64.wrap s))) :: cl b23_ 5 [(Value.int .u8 95)] :: sl 5 1 v40_ 17 (bytesV (rvb (IntKind.u64.wrap m) (IntKind.u64.wrap s))) :: sl 5 1 v14_ 17 (bytesV (rvb (IntKind.u64.wrap m) (IntKind.u64.wrap s))) :: cl b2_ 23 [(Value.int .i64 m), (Value.int .i64 s)] :: F) := cast2 (P := fun (c__ : List Value) (k__ : Nat) => Holds w41_ (ro R :: sl 5 1 v37_ 8 (bytesV (be8 (IntKind.u64.wrap s))) :: cl b23_ 5 [(Value.int .u8 95)] :: sl 5 1 v40_ k__ c__ :: sl 5 1 v14_ 17 (bytesV (rvb (IntKind.u64.wrap m) (IntKind.u64.wrap s))) :: cl b2_ 23 [(Value.int .i64 m), (Value.int .i64 s)] :: F)) (by simp [bytesV, rvb] : ((bytesV (be8 (IntKind.u64.wrap m))) ++ [(Value.int .u8 95)]) ++ (bytesV (be8 (IntKind.u64.wrap s))) = bytesV (rvb (IntKind.u64.wrap m) (IntKind.u64.wrap s))) (rfl : 17 = 17) H42_
      have H46_ : Holds w41_ (ro R :: sl 5 1 v14_ 17 (bytesV (rvb (IntKind.u64.wrap m) (IntKind.u64.wrap s))) :: sl 5 1 v40_ 17 (bytesV (rvb (IntKind.u64.wrap m) (IntKind.u64.wrap s))) :: sl 5 1 v37_ 8 (bytesV (be8 (IntKind.u64.wrap s))) :: cl b23_ 5 [(Value.int .u8 95)] :: cl b2_ 23 [(Value.int .i64 m), (Value.int .i64 s)] :: F) := (Holds.bring (Holds.bring (Holds.bring H45_ 3 rfl) 4 rfl) 2 rfl)
      refine A_op (ls' := #[true, true, true, true, true, true, true, true, true, true, true, true, false, false, false, false]) rfl (by kernel_rfl) (T_call (al := [v14_, v40_]) (pre := [sl 5 1 v14_ 17 (bytesV (rvb (IntKind.u64.wrap m) (IntKind.u64.wrap s))), sl 5 1 v40_ 17 (bytesV (rvb (IntKind.u64.wrap m) (IntKind.u64.wrap s)))]) (F := sl 5 1 v37_ 8 (bytesV (be8 (IntKind.u64.wrap s))) :: cl b23_ 5 [(Value.int .u8 95)] :: cl b2_ 23 [(Value.int .i64 m), (Value.int .i64 s)] :: F) rfl rfl cb8 (Tri.lend (fun h0 a0 d0 => Tri.lend (fun h1 a1 d1 => rvSameEq _ v14_ v40_ 17 17 (rvb (IntKind.u64.wrap m) (IntKind.u64.wrap s)) (rvb (IntKind.u64.wrap m) (IntKind.u64.wrap s)) (RS.mono (sl_RS a0 (Sub.un_right d0)) (Sub.un_left _ _)) (sl_RS a1 (Sub.un_right d1)) (rfl)))) H46_ ?_)
      rintro v50_ p51_ w47_ ⟨_, rfl, _, rfl, rfl, rfl⟩ S49_ H48_
      replace H48_ : Holds w47_ (ro R :: sl 5 1 v14_ 17 (bytesV (rvb (IntKind.u64.wrap m) (IntKind.u64.wrap s))) :: sl 5 1 v40_ 17 (bytesV (rvb (IntKind.u64.wrap m) (IntKind.u64.wrap s))) :: sl 5 1 v37_ 8 (bytesV (be8 (IntKind.u64.wrap s))) :: cl b23_ 5 [(Value.int .u8 95)] :: cl b2_ 23 [(Value.int .i64 m), (Value.int .i64 s)] :: F) := H48_
      have S52_ := Same.trans S44_ S49_
      refine ⟨⟨Holds.rd H48_ 5 rfl, Holds.ro_at H48_ 0 rfl⟩, ?_⟩
      refine A_take 12 (ls' := #[true, true, true, true, true, true, true, true, true, true, true, true, true, false, false, false]) (v := (Value.bool true)) rfl (by kernel_rfl) (by kernel_rfl) (by kernel_rfl) (by kernel_rfl) (fun _ _ _ h => h) (fun w hS => x_move rfl) ⟨Holds.rd H48_ 5 rfl, Holds.ro_at H48_ 0 rfl⟩ ?_
      refine A_ready (i := 13) (rs := []) (by kernel_rfl) ?_
      refine AllR.cons ?_ AllR.nil
      refine A_opYes (ls' := #[true, true, true, true, true, true, true, true, true, true, true, true, true, true, false, false]) (j := 12) (dj := 15) (b := true) rfl (by kernel_rfl) rfl rfl rfl (T_call (al := []) (pre := []) (F := sl 5 1 v14_ 17 (bytesV (rvb (IntKind.u64.wrap m) (IntKind.u64.wrap s))) :: sl 5 1 v40_ 17 (bytesV (rvb (IntKind.u64.wrap m) (IntKind.u64.wrap s))) :: sl 5 1 v37_ 8 (bytesV (be8 (IntKind.u64.wrap s))) :: cl b23_ 5 [(Value.int .u8 95)] :: cl b2_ 23 [(Value.int .i64 m), (Value.int .i64 s)] :: F) rfl rfl cb11 (rvLive R) H48_ ?_)
      rintro v56_ p57_ w53_ ⟨rfl, rfl⟩ S55_ H54_
      replace H54_ : Holds w53_ (ro R :: sl 5 1 v14_ 17 (bytesV (rvb (IntKind.u64.wrap m) (IntKind.u64.wrap s))) :: sl 5 1 v40_ 17 (bytesV (rvb (IntKind.u64.wrap m) (IntKind.u64.wrap s))) :: sl 5 1 v37_ 8 (bytesV (be8 (IntKind.u64.wrap s))) :: cl b23_ 5 [(Value.int .u8 95)] :: cl b2_ 23 [(Value.int .i64 m), (Value.int .i64 s)] :: F) := H54_
      have S58_ := Same.trans S52_ S55_
      refine ⟨⟨Holds.rd H54_ 5 rfl, Holds.ro_at H54_ 0 rfl⟩, ?_⟩
      refine A_take 14 (ls' := #[true, true, true, true, true, true, true, true, true, true, true, true, true, true, true, false]) (v := (Value.bool true)) rfl (by kernel_rfl) (by kernel_rfl) (by kernel_rfl) (by kernel_rfl) (fun _ _ _ h => h) (fun w hS => (x_pickT rfl rfl)) ⟨Holds.rd H54_ 5 rfl, Holds.ro_at H54_ 0 rfl⟩ ?_
      refine A_take 15 (ls' := #[true, true, true, true, true, true, true, true, true, true, true, true, true, true, true, true]) (v := (Value.bool true)) rfl (by kernel_rfl) (by kernel_rfl) (by kernel_rfl) (by kernel_rfl) (fun _ _ _ h => h) (fun w hS => x_assign rfl) ⟨Holds.rd H54_ 5 rfl, Holds.ro_at H54_ 0 rfl⟩ ?_
      refine A_done (by kernel_rfl) ?_
      refine (X_then (hK7_ _ _ ?_))
      clear hK7_
      refine C_ret ?_
      refine R_any (v := (Value.bool true)) (run_results1 rfl rfl) ?_
      have H59_ : Holds w53_ (ro R :: F) := (Holds.erase (Holds.erase (Holds.erase (Holds.erase (Holds.erase (Holds.bring H54_ 0 rfl) 1) 1) 1) 1) 1)
      exact ⟨_, [], rfl, ⟨rfl, rfl⟩, S58_, H59_⟩
    refine AllR.cons ?_ AllR.nil
    refine A_op (ls' := #[true, true, true, true, false, true, false, true, true, false, false, false, false, false, false, false]) rfl (by kernel_rfl) (T_new (obj := .cells #[(Value.int .u8 95)] 5) (f := fun b => .slice (some ⟨b, 0, none⟩) 1 1) (A := fun b => cl b 5 [(Value.int .u8 95)]) (by kernel_rfl) (fun l h => h.alloc _ _) H12_ ?_)
    intro b60_ w61_ S63_ H62_
    replace H62_ : Holds w61_ (cl b60_ 5 [(Value.int .u8 95)] :: ro R :: sl 5 1 v14_ 17 (bytesV (rvb (IntKind.u64.wrap m) (IntKind.u64.wrap s))) :: cl b2_ 23 [(Value.int .i64 m), (Value.int .i64 s)] :: F) := H62_
    have S64_ := Same.trans S16_ S63_
    refine ⟨⟨Holds.rd H62_ 3 rfl, Holds.ro_at H62_ 1 rfl⟩, ?_⟩
    refine A_ready (i := 4) (rs := []) (by kernel_rfl) ?_
    refine AllR.cons ?_ AllR.nil
    have H65_ : Holds w61_ (ro R :: cl b60_ 5 [(Value.int .u8 95)] :: sl 5 1 v14_ 17 (bytesV (rvb (IntKind.u64.wrap m) (IntKind.u64.wrap s))) :: cl b2_ 23 [(Value.int .i64 m), (Value.int .i64 s)] :: F) := (Holds.bring H62_ 1 rfl)
    refine A_op (ls' := #[true, true, true, true, true, true, false, true, true, false, false, false, false, false, false, false]) rfl (by kernel_rfl) (T_call (al := [(Value.int .i64 m)]) (pre := []) (F := cl b60_ 5 [(Value.int .u8 95)] :: sl 5 1 v14_ 17 (bytesV (rvb (IntKind.u64.wrap m) (IntKind.u64.wrap s))) :: cl b2_ 23 [(Value.int .i64 m), (Value.int .i64 s)] :: F) rfl rfl cb10 (rvMain R m) H65_ ?_)
    rintro v69_ p70_ w66_ rfl S68_ H67_
    replace H67_ : Holds w66_ (ro R :: sl 5 1 v69_ 8 (bytesV (be8 (IntKind.u64.wrap m))) :: cl b60_ 5 [(Value.int .u8 95)] :: sl 5 1 v14_ 17 (bytesV (rvb (IntKind.u64.wrap m) (IntKind.u64.wrap s))) :: cl b2_ 23 [(Value.int .i64 m), (Value.int .i64 s)] :: F) := H67_
    have S71_ := Same.trans S64_ S68_
    refine ⟨⟨Holds.rd H67_ 4 rfl, Holds.ro_at H67_ 0 rfl⟩, ?_⟩
    refine A_ready (i := 6) (rs := []) (by kernel_rfl) ?_
    refine AllR.cons ?_ AllR.nil
    refine A_op (ls' := #[true, true, true, true, true, true, true, true, true, false, false, false, false, false, false, false]) rfl (by kernel_rfl) (T_append rfl rfl Try.underlying25 z5 rfl (by decide) H67_ 1 rfl (Holds.cl_src H67_ 2 rfl Try.underlying25 (by simp [Value.oneCell']) rfl) (by omega) ?_)
    intro v72_ w73_ S75_ H74_
    replace H74_ : Holds w73_ (ro R :: sl 5 1 v72_ 9 ((bytesV (be8 (IntKind.u64.wrap m))) ++ [(Value.int .u8 95)]) :: cl b60_ 5 [(Value.int .u8 95)] :: sl 5 1 v14_ 17 (bytesV (rvb (IntKind.u64.wrap m) (IntKind.u64.wrap s))) :: cl b2_ 23 [(Value.int .i64 m), (Value.int .i64 s)] :: F) := H74_
    have S76_ := Same.trans S71_ S75_
    refine ⟨⟨Holds.rd H74_ 4 rfl, Holds.ro_at H74_ 0 rfl⟩, ?_⟩
    refine A_ready (i := 9) (rs := []) (by kernel_rfl) ?_
    refine AllR.cons ?_ AllR.nil
    refine A_op (ls' := #[true, true, true, true, true, true, true, true, true, true, false, false, false, false, false, false]) rfl (by kernel_rfl) (T_call (al := [(Value.int .i64 s)]) (pre := []) (F := sl 5 1 v72_ 9 ((bytesV (be8 (IntKind.u64.wrap m))) ++ [(Value.int .u8 95)]) :: cl b60_ 5 [(Value.int .u8 95)] :: sl 5 1 v14_ 17 (bytesV (rvb (IntKind.u64.wrap m) (IntKind.u64.wrap s))) :: cl b2_ 23 [(Value.int .i64 m), (Value.int .i64 s)] :: F) rfl rfl cb10 (rvMain R s) H74_ ?_)
    rintro v80_ p81_ w77_ rfl S79_ H78_
    replace H78_ : Holds w77_ (ro R :: sl 5 1 v80_ 8 (bytesV (be8 (IntKind.u64.wrap s))) :: sl 5 1 v72_ 9 ((bytesV (be8 (IntKind.u64.wrap m))) ++ [(Value.int .u8 95)]) :: cl b60_ 5 [(Value.int .u8 95)] :: sl 5 1 v14_ 17 (bytesV (rvb (IntKind.u64.wrap m) (IntKind.u64.wrap s))) :: cl b2_ 23 [(Value.int .i64 m), (Value.int .i64 s)] :: F) := H78_
    have S82_ := Same.trans S76_ S79_
    refine ⟨⟨Holds.rd H78_ 5 rfl, Holds.ro_at H78_ 0 rfl⟩, ?_⟩
    refine A_ready (i := 10) (rs := []) (by kernel_rfl) ?_
    refine AllR.cons ?_ AllR.nil
    refine A_op (ls' := #[true, true, true, true, true, true, true, true, true, true, true, false, false, false, false, false]) rfl (by kernel_rfl) (T_append rfl rfl Try.underlying25 z5 rfl (by decide) H78_ 2 rfl (Holds.sl_src H78_ 1 rfl Try.underlying25 (by simp [bytesV, Value.oneCell'])) (by omega) ?_)
    intro v83_ w84_ S86_ H85_
    replace H85_ : Holds w84_ (ro R :: sl 5 1 v80_ 8 (bytesV (be8 (IntKind.u64.wrap s))) :: sl 5 1 v83_ 17 (((bytesV (be8 (IntKind.u64.wrap m))) ++ [(Value.int .u8 95)]) ++ (bytesV (be8 (IntKind.u64.wrap s)))) :: cl b60_ 5 [(Value.int .u8 95)] :: sl 5 1 v14_ 17 (bytesV (rvb (IntKind.u64.wrap m) (IntKind.u64.wrap s))) :: cl b2_ 23 [(Value.int .i64 m), (Value.int .i64 s)] :: F) := H85_
    have S87_ := Same.trans S82_ S86_
    refine ⟨⟨Holds.rd H85_ 5 rfl, Holds.ro_at H85_ 0 rfl⟩, ?_⟩
    refine A_ready (i := 11) (rs := []) (by kernel_rfl) ?_
    refine AllR.cons ?_ AllR.nil
    have H88_ : Holds w84_ (ro R :: sl 5 1 v80_ 8 (bytesV (be8 (IntKind.u64.wrap s))) :: sl 5 1 v83_ 17 (bytesV (rvb (IntKind.u64.wrap m) (IntKind.u64.wrap s))) :: cl b60_ 5 [(Value.int .u8 95)] :: sl 5 1 v14_ 17 (bytesV (rvb (IntKind.u64.wrap m) (IntKind.u64.wrap s))) :: cl b2_ 23 [(Value.int .i64 m), (Value.int .i64 s)] :: F) := cast2 (P := fun (c__ : List Value) (k__ : Nat) => Holds w84_ (ro R :: sl 5 1 v80_ 8 (bytesV (be8 (IntKind.u64.wrap s))) :: sl 5 1 v83_ k__ c__ :: cl b60_ 5 [(Value.int .u8 95)] :: sl 5 1 v14_ 17 (bytesV (rvb (IntKind.u64.wrap m) (IntKind.u64.wrap s))) :: cl b2_ 23 [(Value.int .i64 m), (Value.int .i64 s)] :: F)) (by simp [bytesV, rvb] : ((bytesV (be8 (IntKind.u64.wrap m))) ++ [(Value.int .u8 95)]) ++ (bytesV (be8 (IntKind.u64.wrap s))) = bytesV (rvb (IntKind.u64.wrap m) (IntKind.u64.wrap s))) (rfl : 17 = 17) H85_
    have H89_ : Holds w84_ (ro R :: sl 5 1 v14_ 17 (bytesV (rvb (IntKind.u64.wrap m) (IntKind.u64.wrap s))) :: sl 5 1 v83_ 17 (bytesV (rvb (IntKind.u64.wrap m) (IntKind.u64.wrap s))) :: sl 5 1 v80_ 8 (bytesV (be8 (IntKind.u64.wrap s))) :: cl b60_ 5 [(Value.int .u8 95)] :: cl b2_ 23 [(Value.int .i64 m), (Value.int .i64 s)] :: F) := (Holds.bring (Holds.bring (Holds.bring H88_ 2 rfl) 4 rfl) 2 rfl)
    refine A_op (ls' := #[true, true, true, true, true, true, true, true, true, true, true, true, false, false, false, false]) rfl (by kernel_rfl) (T_call (al := [v14_, v83_]) (pre := [sl 5 1 v14_ 17 (bytesV (rvb (IntKind.u64.wrap m) (IntKind.u64.wrap s))), sl 5 1 v83_ 17 (bytesV (rvb (IntKind.u64.wrap m) (IntKind.u64.wrap s)))]) (F := sl 5 1 v80_ 8 (bytesV (be8 (IntKind.u64.wrap s))) :: cl b60_ 5 [(Value.int .u8 95)] :: cl b2_ 23 [(Value.int .i64 m), (Value.int .i64 s)] :: F) rfl rfl cb8 (Tri.lend (fun h0 a0 d0 => Tri.lend (fun h1 a1 d1 => rvSameEq _ v14_ v83_ 17 17 (rvb (IntKind.u64.wrap m) (IntKind.u64.wrap s)) (rvb (IntKind.u64.wrap m) (IntKind.u64.wrap s)) (RS.mono (sl_RS a0 (Sub.un_right d0)) (Sub.un_left _ _)) (sl_RS a1 (Sub.un_right d1)) (rfl)))) H89_ ?_)
    rintro v93_ p94_ w90_ ⟨_, rfl, _, rfl, rfl, rfl⟩ S92_ H91_
    replace H91_ : Holds w90_ (ro R :: sl 5 1 v14_ 17 (bytesV (rvb (IntKind.u64.wrap m) (IntKind.u64.wrap s))) :: sl 5 1 v83_ 17 (bytesV (rvb (IntKind.u64.wrap m) (IntKind.u64.wrap s))) :: sl 5 1 v80_ 8 (bytesV (be8 (IntKind.u64.wrap s))) :: cl b60_ 5 [(Value.int .u8 95)] :: cl b2_ 23 [(Value.int .i64 m), (Value.int .i64 s)] :: F) := H91_
    have S95_ := Same.trans S87_ S92_
    refine ⟨⟨Holds.rd H91_ 5 rfl, Holds.ro_at H91_ 0 rfl⟩, ?_⟩
    refine A_take 12 (ls' := #[true, true, true, true, true, true, true, true, true, true, true, true, true, false, false, false]) (v := (Value.bool true)) rfl (by kernel_rfl) (by kernel_rfl) (by kernel_rfl) (by kernel_rfl) (fun _ _ _ h => h) (fun w hS => x_move rfl) ⟨Holds.rd H91_ 5 rfl, Holds.ro_at H91_ 0 rfl⟩ ?_
    refine A_ready (i := 13) (rs := []) (by kernel_rfl) ?_
    refine AllR.cons ?_ AllR.nil
    refine A_opYes (ls' := #[true, true, true, true, true, true, true, true, true, true, true, true, true, true, false, false]) (j := 12) (dj := 15) (b := true) rfl (by kernel_rfl) rfl rfl rfl (T_call (al := []) (pre := []) (F := sl 5 1 v14_ 17 (bytesV (rvb (IntKind.u64.wrap m) (IntKind.u64.wrap s))) :: sl 5 1 v83_ 17 (bytesV (rvb (IntKind.u64.wrap m) (IntKind.u64.wrap s))) :: sl 5 1 v80_ 8 (bytesV (be8 (IntKind.u64.wrap s))) :: cl b60_ 5 [(Value.int .u8 95)] :: cl b2_ 23 [(Value.int .i64 m), (Value.int .i64 s)] :: F) rfl rfl cb11 (rvLive R) H91_ ?_)
    rintro v99_ p100_ w96_ ⟨rfl, rfl⟩ S98_ H97_
    replace H97_ : Holds w96_ (ro R :: sl 5 1 v14_ 17 (bytesV (rvb (IntKind.u64.wrap m) (IntKind.u64.wrap s))) :: sl 5 1 v83_ 17 (bytesV (rvb (IntKind.u64.wrap m) (IntKind.u64.wrap s))) :: sl 5 1 v80_ 8 (bytesV (be8 (IntKind.u64.wrap s))) :: cl b60_ 5 [(Value.int .u8 95)] :: cl b2_ 23 [(Value.int .i64 m), (Value.int .i64 s)] :: F) := H97_
    have S101_ := Same.trans S95_ S98_
    refine ⟨⟨Holds.rd H97_ 5 rfl, Holds.ro_at H97_ 0 rfl⟩, ?_⟩
    refine A_take 14 (ls' := #[true, true, true, true, true, true, true, true, true, true, true, true, true, true, true, false]) (v := (Value.bool true)) rfl (by kernel_rfl) (by kernel_rfl) (by kernel_rfl) (by kernel_rfl) (fun _ _ _ h => h) (fun w hS => (x_pickT rfl rfl)) ⟨Holds.rd H97_ 5 rfl, Holds.ro_at H97_ 0 rfl⟩ ?_
    refine A_take 15 (ls' := #[true, true, true, true, true, true, true, true, true, true, true, true, true, true, true, true]) (v := (Value.bool true)) rfl (by kernel_rfl) (by kernel_rfl) (by kernel_rfl) (by kernel_rfl) (fun _ _ _ h => h) (fun w hS => x_assign rfl) ⟨Holds.rd H97_ 5 rfl, Holds.ro_at H97_ 0 rfl⟩ ?_
    refine A_done (by kernel_rfl) ?_
    refine (X_then (hK7_ _ _ ?_))
    clear hK7_
    refine C_ret ?_
    refine R_any (v := (Value.bool true)) (run_results1 rfl rfl) ?_
    have H102_ : Holds w96_ (ro R :: F) := (Holds.erase (Holds.erase (Holds.erase (Holds.erase (Holds.erase (Holds.bring H97_ 0 rfl) 1) 1) 1) 1) 1)
    exact ⟨_, [], rfl, ⟨rfl, rfl⟩, S101_, H102_⟩
  refine AllR.cons ?_ AllR.nil
  refine A_op (ls' := #[true, false, true, true, false, true, false, true, true, false, false, false, false, false, false, false]) rfl (by kernel_rfl) (T_new (obj := .cells #[(Value.int .u8 95)] 5) (f := fun b => .slice (some ⟨b, 0, none⟩) 1 1) (A := fun b => cl b 5 [(Value.int .u8 95)]) (by kernel_rfl) (fun l h => h.alloc _ _) H9_ ?_)
  intro b103_ w104_ S106_ H105_
  replace H105_ : Holds w104_ (cl b103_ 5 [(Value.int .u8 95)] :: cl b2_ 23 [(Value.int .i64 m), (Value.int .i64 s)] :: ro R :: F) := H105_
  have S107_ := Same.trans (Same.trans S6_ (Same.drew _)) S106_
  refine ⟨⟨Holds.rd H105_ 1 rfl, Holds.ro_at H105_ 2 rfl⟩, ?_⟩
  refine A_ready (i := 1) (rs := []) (by kernel_rfl) ?_
  refine AllR.cons ?_ AllR.nil
  have H108_ : Holds w104_ (ro R :: cl b103_ 5 [(Value.int .u8 95)] :: cl b2_ 23 [(Value.int .i64 m), (Value.int .i64 s)] :: F) := (Holds.bring H105_ 2 rfl)
  refine A_op (ls' := #[true, true, true, true, false, true, false, true, true, false, false, false, false, false, false, false]) rfl (by kernel_rfl) (T_call (al := [(Value.agg #[(Value.int .i64 m), (Value.int .i64 s)])]) (pre := []) (F := cl b103_ 5 [(Value.int .u8 95)] :: cl b2_ 23 [(Value.int .i64 m), (Value.int .i64 s)] :: F) rfl rfl cb9 (revBytes R m s) H108_ ?_)
  rintro v112_ p113_ w109_ rfl S111_ H110_
  replace H110_ : Holds w109_ (ro R :: sl 5 1 v112_ 17 (bytesV (rvb (IntKind.u64.wrap m) (IntKind.u64.wrap s))) :: cl b103_ 5 [(Value.int .u8 95)] :: cl b2_ 23 [(Value.int .i64 m), (Value.int .i64 s)] :: F) := H110_
  have S114_ := Same.trans S107_ S111_
  refine ⟨⟨Holds.rd H110_ 3 rfl, Holds.ro_at H110_ 0 rfl⟩, ?_⟩
  refine A_ready (i := 4) (rs := []) (by kernel_rfl) ?_
  refine AllR.cons ?_ AllR.nil
  refine A_op (ls' := #[true, true, true, true, true, true, false, true, true, false, false, false, false, false, false, false]) rfl (by kernel_rfl) (T_call (al := [(Value.int .i64 m)]) (pre := []) (F := sl 5 1 v112_ 17 (bytesV (rvb (IntKind.u64.wrap m) (IntKind.u64.wrap s))) :: cl b103_ 5 [(Value.int .u8 95)] :: cl b2_ 23 [(Value.int .i64 m), (Value.int .i64 s)] :: F) rfl rfl cb10 (rvMain R m) H110_ ?_)
  rintro v118_ p119_ w115_ rfl S117_ H116_
  replace H116_ : Holds w115_ (ro R :: sl 5 1 v118_ 8 (bytesV (be8 (IntKind.u64.wrap m))) :: sl 5 1 v112_ 17 (bytesV (rvb (IntKind.u64.wrap m) (IntKind.u64.wrap s))) :: cl b103_ 5 [(Value.int .u8 95)] :: cl b2_ 23 [(Value.int .i64 m), (Value.int .i64 s)] :: F) := H116_
  have S120_ := Same.trans S114_ S117_
  refine ⟨⟨Holds.rd H116_ 4 rfl, Holds.ro_at H116_ 0 rfl⟩, ?_⟩
  refine A_ready (i := 6) (rs := []) (by kernel_rfl) ?_
  refine AllR.cons ?_ AllR.nil
  refine A_op (ls' := #[true, true, true, true, true, true, true, true, true, false, false, false, false, false, false, false]) rfl (by kernel_rfl) (T_append rfl rfl Try.underlying25 z5 rfl (by decide) H116_ 1 rfl (Holds.cl_src H116_ 3 rfl Try.underlying25 (by simp [Value.oneCell']) rfl) (by omega) ?_)
  intro v121_ w122_ S124_ H123_
  replace H123_ : Holds w122_ (ro R :: sl 5 1 v121_ 9 ((bytesV (be8 (IntKind.u64.wrap m))) ++ [(Value.int .u8 95)]) :: sl 5 1 v112_ 17 (bytesV (rvb (IntKind.u64.wrap m) (IntKind.u64.wrap s))) :: cl b103_ 5 [(Value.int .u8 95)] :: cl b2_ 23 [(Value.int .i64 m), (Value.int .i64 s)] :: F) := H123_
  have S125_ := Same.trans S120_ S124_
  refine ⟨⟨Holds.rd H123_ 4 rfl, Holds.ro_at H123_ 0 rfl⟩, ?_⟩
  refine A_ready (i := 9) (rs := []) (by kernel_rfl) ?_
  refine AllR.cons ?_ AllR.nil
  refine A_op (ls' := #[true, true, true, true, true, true, true, true, true, true, false, false, false, false, false, false]) rfl (by kernel_rfl) (T_call (al := [(Value.int .i64 s)]) (pre := []) (F := sl 5 1 v121_ 9 ((bytesV (be8 (IntKind.u64.wrap m))) ++ [(Value.int .u8 95)]) :: sl 5 1 v112_ 17 (bytesV (rvb (IntKind.u64.wrap m) (IntKind.u64.wrap s))) :: cl b103_ 5 [(Value.int .u8 95)] :: cl b2_ 23 [(Value.int .i64 m), (Value.int .i64 s)] :: F) rfl rfl cb10 (rvMain R s) H123_ ?_)
  rintro v129_ p130_ w126_ rfl S128_ H127_
  replace H127_ : Holds w126_ (ro R :: sl 5 1 v129_ 8 (bytesV (be8 (IntKind.u64.wrap s))) :: sl 5 1 v121_ 9 ((bytesV (be8 (IntKind.u64.wrap m))) ++ [(Value.int .u8 95)]) :: sl 5 1 v112_ 17 (bytesV (rvb (IntKind.u64.wrap m) (IntKind.u64.wrap s))) :: cl b103_ 5 [(Value.int .u8 95)] :: cl b2_ 23 [(Value.int .i64 m), (Value.int .i64 s)] :: F) := H127_
  have S131_ := Same.trans S125_ S128_
  refine ⟨⟨Holds.rd H127_ 5 rfl, Holds.ro_at H127_ 0 rfl⟩, ?_⟩
  refine A_ready (i := 10) (rs := []) (by kernel_rfl) ?_
  refine AllR.cons ?_ AllR.nil
  refine A_op (ls' := #[true, true, true, true, true, true, true, true, true, true, true, false, false, false, false, false]) rfl (by kernel_rfl) (T_append rfl rfl Try.underlying25 z5 rfl (by decide) H127_ 2 rfl (Holds.sl_src H127_ 1 rfl Try.underlying25 (by simp [bytesV, Value.oneCell'])) (by omega) ?_)
  intro v132_ w133_ S135_ H134_
  replace H134_ : Holds w133_ (ro R :: sl 5 1 v129_ 8 (bytesV (be8 (IntKind.u64.wrap s))) :: sl 5 1 v132_ 17 (((bytesV (be8 (IntKind.u64.wrap m))) ++ [(Value.int .u8 95)]) ++ (bytesV (be8 (IntKind.u64.wrap s)))) :: sl 5 1 v112_ 17 (bytesV (rvb (IntKind.u64.wrap m) (IntKind.u64.wrap s))) :: cl b103_ 5 [(Value.int .u8 95)] :: cl b2_ 23 [(Value.int .i64 m), (Value.int .i64 s)] :: F) := H134_
  have S136_ := Same.trans S131_ S135_
  refine ⟨⟨Holds.rd H134_ 5 rfl, Holds.ro_at H134_ 0 rfl⟩, ?_⟩
  refine A_ready (i := 11) (rs := []) (by kernel_rfl) ?_
  refine AllR.cons ?_ AllR.nil
  have H137_ : Holds w133_ (ro R :: sl 5 1 v129_ 8 (bytesV (be8 (IntKind.u64.wrap s))) :: sl 5 1 v132_ 17 (bytesV (rvb (IntKind.u64.wrap m) (IntKind.u64.wrap s))) :: sl 5 1 v112_ 17 (bytesV (rvb (IntKind.u64.wrap m) (IntKind.u64.wrap s))) :: cl b103_ 5 [(Value.int .u8 95)] :: cl b2_ 23 [(Value.int .i64 m), (Value.int .i64 s)] :: F) := cast2 (P := fun (c__ : List Value) (k__ : Nat) => Holds w133_ (ro R :: sl 5 1 v129_ 8 (bytesV (be8 (IntKind.u64.wrap s))) :: sl 5 1 v132_ k__ c__ :: sl 5 1 v112_ 17 (bytesV (rvb (IntKind.u64.wrap m) (IntKind.u64.wrap s))) :: cl b103_ 5 [(Value.int .u8 95)] :: cl b2_ 23 [(Value.int .i64 m), (Value.int .i64 s)] :: F)) (by simp [bytesV, rvb] : ((bytesV (be8 (IntKind.u64.wrap m))) ++ [(Value.int .u8 95)]) ++ (bytesV (be8 (IntKind.u64.wrap s))) = bytesV (rvb (IntKind.u64.wrap m) (IntKind.u64.wrap s))) (rfl : 17 = 17) H134_
  have H138_ : Holds w133_ (ro R :: sl 5 1 v112_ 17 (bytesV (rvb (IntKind.u64.wrap m) (IntKind.u64.wrap s))) :: sl 5 1 v132_ 17 (bytesV (rvb (IntKind.u64.wrap m) (IntKind.u64.wrap s))) :: sl 5 1 v129_ 8 (bytesV (be8 (IntKind.u64.wrap s))) :: cl b103_ 5 [(Value.int .u8 95)] :: cl b2_ 23 [(Value.int .i64 m), (Value.int .i64 s)] :: F) := (Holds.bring (Holds.bring (Holds.bring H137_ 2 rfl) 3 rfl) 2 rfl)
  refine A_op (ls' := #[true, true, true, true, true, true, true, true, true, true, true, true, false, false, false, false]) rfl (by kernel_rfl) (T_call (al := [v112_, v132_]) (pre := [sl 5 1 v112_ 17 (bytesV (rvb (IntKind.u64.wrap m) (IntKind.u64.wrap s))), sl 5 1 v132_ 17 (bytesV (rvb (IntKind.u64.wrap m) (IntKind.u64.wrap s)))]) (F := sl 5 1 v129_ 8 (bytesV (be8 (IntKind.u64.wrap s))) :: cl b103_ 5 [(Value.int .u8 95)] :: cl b2_ 23 [(Value.int .i64 m), (Value.int .i64 s)] :: F) rfl rfl cb8 (Tri.lend (fun h0 a0 d0 => Tri.lend (fun h1 a1 d1 => rvSameEq _ v112_ v132_ 17 17 (rvb (IntKind.u64.wrap m) (IntKind.u64.wrap s)) (rvb (IntKind.u64.wrap m) (IntKind.u64.wrap s)) (RS.mono (sl_RS a0 (Sub.un_right d0)) (Sub.un_left _ _)) (sl_RS a1 (Sub.un_right d1)) (rfl)))) H138_ ?_)
  rintro v142_ p143_ w139_ ⟨_, rfl, _, rfl, rfl, rfl⟩ S141_ H140_
  replace H140_ : Holds w139_ (ro R :: sl 5 1 v112_ 17 (bytesV (rvb (IntKind.u64.wrap m) (IntKind.u64.wrap s))) :: sl 5 1 v132_ 17 (bytesV (rvb (IntKind.u64.wrap m) (IntKind.u64.wrap s))) :: sl 5 1 v129_ 8 (bytesV (be8 (IntKind.u64.wrap s))) :: cl b103_ 5 [(Value.int .u8 95)] :: cl b2_ 23 [(Value.int .i64 m), (Value.int .i64 s)] :: F) := H140_
  have S144_ := Same.trans S136_ S141_
  refine ⟨⟨Holds.rd H140_ 5 rfl, Holds.ro_at H140_ 0 rfl⟩, ?_⟩
  refine A_take 12 (ls' := #[true, true, true, true, true, true, true, true, true, true, true, true, true, false, false, false]) (v := (Value.bool true)) rfl (by kernel_rfl) (by kernel_rfl) (by kernel_rfl) (by kernel_rfl) (fun _ _ _ h => h) (fun w hS => x_move rfl) ⟨Holds.rd H140_ 5 rfl, Holds.ro_at H140_ 0 rfl⟩ ?_
  refine A_ready (i := 13) (rs := []) (by kernel_rfl) ?_
  refine AllR.cons ?_ AllR.nil
  refine A_opYes (ls' := #[true, true, true, true, true, true, true, true, true, true, true, true, true, true, false, false]) (j := 12) (dj := 15) (b := true) rfl (by kernel_rfl) rfl rfl rfl (T_call (al := []) (pre := []) (F := sl 5 1 v112_ 17 (bytesV (rvb (IntKind.u64.wrap m) (IntKind.u64.wrap s))) :: sl 5 1 v132_ 17 (bytesV (rvb (IntKind.u64.wrap m) (IntKind.u64.wrap s))) :: sl 5 1 v129_ 8 (bytesV (be8 (IntKind.u64.wrap s))) :: cl b103_ 5 [(Value.int .u8 95)] :: cl b2_ 23 [(Value.int .i64 m), (Value.int .i64 s)] :: F) rfl rfl cb11 (rvLive R) H140_ ?_)
  rintro v148_ p149_ w145_ ⟨rfl, rfl⟩ S147_ H146_
  replace H146_ : Holds w145_ (ro R :: sl 5 1 v112_ 17 (bytesV (rvb (IntKind.u64.wrap m) (IntKind.u64.wrap s))) :: sl 5 1 v132_ 17 (bytesV (rvb (IntKind.u64.wrap m) (IntKind.u64.wrap s))) :: sl 5 1 v129_ 8 (bytesV (be8 (IntKind.u64.wrap s))) :: cl b103_ 5 [(Value.int .u8 95)] :: cl b2_ 23 [(Value.int .i64 m), (Value.int .i64 s)] :: F) := H146_
  have S150_ := Same.trans S144_ S147_
  refine ⟨⟨Holds.rd H146_ 5 rfl, Holds.ro_at H146_ 0 rfl⟩, ?_⟩
  refine A_take 14 (ls' := #[true, true, true, true, true, true, true, true, true, true, true, true, true, true, true, false]) (v := (Value.bool true)) rfl (by kernel_rfl) (by kernel_rfl) (by kernel_rfl) (by kernel_rfl) (fun _ _ _ h => h) (fun w hS => (x_pickT rfl rfl)) ⟨Holds.rd H146_ 5 rfl, Holds.ro_at H146_ 0 rfl⟩ ?_
  refine A_take 15 (ls' := #[true, true, true, true, true, true, true, true, true, true, true, true, true, true, true, true]) (v := (Value.bool true)) rfl (by kernel_rfl) (by kernel_rfl) (by kernel_rfl) (by kernel_rfl) (fun _ _ _ h => h) (fun w hS => x_assign rfl) ⟨Holds.rd H146_ 5 rfl, Holds.ro_at H146_ 0 rfl⟩ ?_
  refine A_done (by kernel_rfl) ?_
  refine (X_then (hK7_ _ _ ?_))
  clear hK7_
  refine C_ret ?_
  refine R_any (v := (Value.bool true)) (run_results1 rfl rfl) ?_
  have H151_ : Holds w145_ (ro R :: F) := (Holds.erase (Holds.erase (Holds.erase (Holds.erase (Holds.erase (Holds.bring H146_ 0 rfl) 1) 1) 1) 1) 1)
  exact ⟨_, [], rfl, ⟨rfl, rfl⟩, S150_, H151_⟩
end Go.Proofs.Ytfdnfnjmphjdnaa
