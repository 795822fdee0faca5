/- Words, and proved steps, on which the proof leans. -/
import Derived.Test.YtlnihndjepjagaaAd5
set_option linter.unusedVariables false
set_option linter.unusedSimpArgs false
namespace Go.Proofs.Ytlnihndjepjagaa
open Go Go.RowKit Gw
open Go.Value renaming int → vI, bool → vB, slice → vS, pointer → vP, agg → vA, tuple → vT

theorem bytes_one {t : ByteArray} {x : Int} (h1 : (ints t).length = 1) (h2 : (ints t)[0]? = some x) (h3 : x = 0) : t.data.toList = [0] := by
  subst h3
  rw [← u8s_ints t]
  match hi : ints t with
  | [] => rw [hi] at h1; cases h1
  | [y] => rw [hi] at h2; have : y = 0 := by simpa using h2
           subst this; rfl
  | _ :: _ :: _ => rw [hi] at h1; simp at h1
theorem bytes_not {t : ByteArray} {x : Int} (h2 : (ints t)[0]? = some x) (h3 : ¬ x = 0) : t.data.toList ≠ [0] := fun e => h3 (by
  have : ints t = [0] := by unfold ints; rw [e]; rfl
  rw [this] at h2; simpa using h2.symm)
theorem bytes_len {t : ByteArray} (h : ¬ (ints t).length = 1) : t.data.toList ≠ [0] := fun e => h (by unfold ints; rw [e]; rfl)
theorem u8s_snoc0 (t : ByteArray) : u8s (ints t ++ [0]) = t.data.toList ++ [0] := by
  rw [← u8s_ints t]
  simp [u8s]

set_option maxHeartbeats 1600000 in
theorem zzUser (R : HP) (va : Option Addr) (vc n : Nat) (nm : ByteArray) :
    Tri Try.prog 140 #[(vA #[(vS va n vc)]), (Value.string nm)] R [] (fun v__ post__ => ∃ (u r b : Nat), v__ = (vQ u) ∧ post__ = [cl u 242 [(vS (some ⟨b, 0, none⟩) 1 1), (vS none 0 0), (vS (some ⟨r, 0, none⟩) 1 1), (vP none)], cl r 9 [(Value.string (ByteArray.mk #[114]))]]) := by
 refine Tri.into (n := 10) (al := [(vA #[(vS va n vc)]), (Value.string nm)]) Try.func140 rfl Try.ntmps140 rfl rfl fun w F H => ?_
 refine C_seq (fun K1_ hK1_ => C_reg ?_)
 refine S_list (T_box (v := (vA #[(vS va n vc)])) rfl H ?_)
 intro b2_ w3_ S5_ H4_
 have S6_ := Same.trans (Same.refl w) S5_
 refine sv (v := (vP none)) (x_assign rfl) ?_
 refine wpList_nil (X_then (hK1_ _ _ ?_))
 clear hK1_
 refine C_seq (fun K7_ hK7_ => C_reg ?_)
 refine S_list (T_new (obj := .cells #[(vI .u8 117)] 5) (f := fun b__ => .slice (some ⟨b__, 0, none⟩) 1 1) (A := fun b__ => clf b__ 5 [(vI .u8 117)]) (by kernel_rfl) (fun l h => h.allocOb _) H4_ ?_)
 intro b8_ w9_ S11_ H10_
 have S12_ := Same.trans S6_ S11_
 refine S_list (T_convSame rfl Try.underlying122 Try.underlying5 H10_ 0 rfl ?_)
 intro w13_ S15_ H14_
 have S16_ := Same.trans S12_ S15_
 refine S_list (T_new (obj := .cells #[(Value.string (ByteArray.mk #[114]))] 9) (f := fun b__ => .slice (some ⟨b__, 0, none⟩) 1 1) (A := fun b__ => cl b__ 9 [(Value.string (ByteArray.mk #[114]))]) (by kernel_rfl) (fun l h => h.alloc _ _) H14_ ?_)
 intro b17_ w18_ S20_ H19_
 have S21_ := Same.trans S16_ S20_
 refine sv (v := (vA #[(vS (some ⟨b8_, 0, none⟩) 1 1), (vS none 0 0), (vS (some ⟨b17_, 0, none⟩) 1 1), (vP none)])) (by kernel_rfl) ?_
 refine S_list (T_box (v := (vA #[(vS (some ⟨b8_, 0, none⟩) 1 1), (vS none 0 0), (vS (some ⟨b17_, 0, none⟩) 1 1), (vP none)])) rfl H19_ ?_)
 intro b22_ w23_ S25_ H24_
 have S26_ := Same.trans S21_ S25_
 refine sv (v := (vQ b22_)) (x_assign rfl) ?_
 refine wpList_nil (X_then (hK7_ _ _ ?_))
 clear hK7_
 refine C_ret ?_
 refine R_any (v := (vQ b22_)) (run_results1 rfl rfl) ?_
 have H27_ : Holds w23_ (ro R :: cl b22_ 242 [(vS (some ⟨b8_, 0, none⟩) 1 1), (vS none 0 0), (vS (some ⟨b17_, 0, none⟩) 1 1), (vP none)] :: cl b17_ 9 [(Value.string (ByteArray.mk #[114]))] :: F) := (Holds.pkF H24_ [4, 0, 0] 2 :)
 exact ⟨_, _, rfl, ⟨b22_, b17_, b8_, rfl, rfl⟩, S26_, H27_⟩

set_option maxHeartbeats 1600000 in
theorem zzRole (R : HP) (va : Option Addr) (vc n : Nat) (nm : ByteArray) :
    Tri Try.prog 139 #[(vA #[(vS va n vc)]), (Value.string nm)] R [] (fun v__ post__ => ∃ (u b : Nat), v__ = (vQ u) ∧ post__ = [cl u 246 [(vS (some ⟨b, 0, none⟩) 1 1), (vS va n vc)]]) := by
 refine Tri.into (n := 11) (al := [(vA #[(vS va n vc)]), (Value.string nm)]) Try.func139 rfl Try.ntmps139 rfl rfl fun w F H => ?_
 refine C_seq (fun K1_ hK1_ => C_reg ?_)
 refine S_list (T_box (v := (vA #[(vS va n vc)])) rfl H ?_)
 intro b2_ w3_ S5_ H4_
 have S6_ := Same.trans (Same.refl w) S5_
 refine sv (v := (vP none)) (x_assign rfl) ?_
 refine wpList_nil (X_then (hK1_ _ _ ?_))
 clear hK1_
 refine C_seq (fun K7_ hK7_ => C_reg ?_)
 refine S_list (T_new (obj := .cells #[(vI .u8 114)] 5) (f := fun b__ => .slice (some ⟨b__, 0, none⟩) 1 1) (A := fun b__ => clf b__ 5 [(vI .u8 114)]) (by kernel_rfl) (fun l h => h.allocOb _) H4_ ?_)
 intro b8_ w9_ S11_ H10_
 have S12_ := Same.trans S6_ S11_
 refine S_list (T_convSame rfl Try.underlying122 Try.underlying5 H10_ 0 rfl ?_)
 intro w13_ S15_ H14_
 have S16_ := Same.trans S12_ S15_
 refine sv (v := (vQ b2_)) (by kernel_rfl) ?_
 refine sv (v := (vS va n vc)) (x_load1 rfl Try.underlying118 rfl ((Holds.rd H14_ 1 rfl) 0 (vS va n vc) rfl)) ?_
 refine sv (v := (vA #[(vS (some ⟨b8_, 0, none⟩) 1 1), (vS va n vc)])) (by kernel_rfl) ?_
 refine S_list (T_box (v := (vA #[(vS (some ⟨b8_, 0, none⟩) 1 1), (vS va n vc)])) rfl H14_ ?_)
 intro b17_ w18_ S20_ H19_
 have S21_ := Same.trans S16_ S20_
 refine sv (v := (vQ b17_)) (x_assign rfl) ?_
 refine wpList_nil (X_then (hK7_ _ _ ?_))
 clear hK7_
 refine C_ret ?_
 refine R_any (v := (vQ b17_)) (run_results1 rfl rfl) ?_
 have H22_ : Holds w18_ (ro R :: cl b17_ 246 [(vS (some ⟨b8_, 0, none⟩) 1 1), (vS va n vc)] :: F) := (Holds.pkF H19_ [3, 0] 2 :)
 exact ⟨_, _, rfl, ⟨b17_, b8_, rfl, rfl⟩, S21_, H22_⟩

set_option maxHeartbeats 16000000 in
theorem gmPerms (R : HP) (va : Option Addr) (vc : Nat) (C : List Nat) (l : List PM) (nm : ByteArray) (hv : RS R 1 (.slice va (List.length C) vc) (List.length C) (C.map pv)) (hC : All2 (PermAt R) C l) (hl : ∀ p ∈ l, PmOk p) (hn : l.length ≤ 1000) :
    TriG Try.prog 78 #[(Value.iface 177 (vA #[(vS va (List.length C) vc)])), (Value.string nm)] R [] (fun R' v__ post__ => ∃ (u t1 t2 s1 s2 : Nat) (c1 c2 : Int) (z1 z2 : List Value) (W1 W2 : Tr (List UInt8)), v__ = (vQ u) ∧ post__ = [cl u 250 [(Value.iface 186 (vQ t1)), (Value.iface 186 (vQ t2))], cl t1 188 [(vQ (rt s1 W1)), (vI .i64 c1), (vQ s1)], tr s1 s1 W1, clf s1 185 z1, cl t2 188 [(vQ (rt s2 W2)), (vI .i64 c2), (vQ s2)], tr s2 s2 W2, clf s2 185 z2] ∧ (TI BO R' W1 (pivls l 0)) ∧ (TI BO R' W2 (pivls l 1))) := by
 have hCl := hC.1
 refine TriG.into (n := 117) (al := [(Value.iface 177 (vA #[(vS va (List.length C) vc)])), (Value.string nm)]) Try.func78 rfl Try.ntmps78 rfl rfl fun w F H => ?_
 refine C_seq (fun K1_ hK1_ => C_reg ?_)
 refine sv (v := (vP none)) (x_assign rfl) ?_
 refine wpList_nil (X_then (hK1_ _ _ ?_))
 clear hK1_
 refine C_seq (fun K2_ hK2_ => C_reg ?_)
 refine sv (v := (Value.iface 177 (vA #[(vS va (List.length C) vc)]))) (x_move rfl) ?_
 refine sv (v := (Value.string nm)) (x_move rfl) ?_
 refine S_list (T_invoke (al := [(vA #[(vS va (List.length C) vc)]), (Value.string nm)]) (pre := []) rfl (fun w => by kernel_rfl) rfl cb140 (zzUser R va vc (List.length C) nm) H ?_)
 rintro v3_ p10_ w7_ ⟨u4_, r5_, b6_, rfl, rfl⟩ S9_ H8_
 have S11_ := Same.trans (Same.refl w) S9_
 refine sv (v := (vQ u4_)) (x_assign rfl) ?_
 refine wpList_nil (X_then (hK2_ _ _ ?_))
 clear hK2_
 refine C_seq (fun K12_ hK12_ => ?_)
 refine C_seq (fun K13_ hK13_ => C_reg ?_)
 refine sv (v := (vQ u4_)) (x_move rfl) ?_
 refine sv (v := (vB false)) (by kernel_rfl) ?_
 refine wpList_nil (X_then (hK13_ _ _ ?_))
 clear hK13_
 refine C_condF rfl ?_
 refine C_skip (X_then (hK12_ _ _ ?_))
 clear hK12_
 refine C_seq (fun K14_ hK14_ => C_reg ?_)
 refine S_list (T_callW (al := []) rfl rfl cb62 (Calls.into (n := 10) (al := []) Try.func62 rfl Try.ntmps62 rfl rfl ?_))
 refine C_seq (fun K15_ hK15_ => C_reg ?_)
 refine sv (v := (Value.nilIface)) (x_assign rfl) ?_
 refine wpList_nil (X_then (hK15_ _ _ ?_))
 clear hK15_
 refine C_seq (fun K16_ hK16_ => C_reg ?_)
 refine sv (v := (vA #[(Value.nilIface), (Value.nilIface), (Value.nilIface)])) (by kernel_rfl) ?_
 refine sv (v := (vA #[(Value.nilIface), (Value.nilIface), (Value.nilIface), (Value.nilIface), (vP none), (vP none), (vP none), (vI .i64 0)])) (by kernel_rfl) ?_
 refine S_list (T_boxf (v := (vA #[(Value.nilIface), (Value.nilIface), (Value.nilIface), (Value.nilIface), (vP none), (vP none), (vP none), (vI .i64 0)])) rfl H8_ ?_)
 intro b17_ w18_ S20_ H19_
 have S21_ := Same.trans S11_ S20_
 refine sv (v := (vQ b17_)) (x_assign rfl) ?_
 refine wpList_nil (X_then (hK16_ _ _ ?_))
 clear hK16_
 refine C_seq (fun K22_ hK22_ => C_reg ?_)
 refine sv (v := (vQ b17_)) (x_move rfl) ?_
 refine sv (v := (vQ b17_)) (x_move rfl) ?_
 refine sv (v := (vA #[(vQ b17_), (vI .i64 0), (vQ b17_)])) (by kernel_rfl) ?_
 refine S_list (T_box (v := (vA #[(vQ b17_), (vI .i64 0), (vQ b17_)])) rfl H19_ ?_)
 intro b23_ w24_ S26_ H25_
 have S27_ := Same.trans S21_ S26_
 refine sv (v := (Value.iface 186 (vQ b23_))) (by kernel_rfl) ?_
 refine sv (v := (Value.iface 186 (vQ b23_))) (x_assign rfl) ?_
 refine wpList_nil (X_then (hK22_ _ _ ?_))
 clear hK22_
 refine C_ret ?_
 refine R_any (v := (Value.iface 186 (vQ b23_))) (run_results1 rfl rfl) ⟨_, rfl, ?_⟩
 refine sv (v := (Value.iface 186 (vQ b23_))) (x_assign rfl) ?_
 refine wpList_nil (X_then (hK14_ _ _ ?_))
 clear hK14_
 refine C_seq (fun K28_ hK28_ => C_reg ?_)
 refine S_list (T_callW (al := []) rfl rfl cb62 (Calls.into (n := 10) (al := []) Try.func62 rfl Try.ntmps62 rfl rfl ?_))
 refine C_seq (fun K29_ hK29_ => C_reg ?_)
 refine sv (v := (Value.nilIface)) (x_assign rfl) ?_
 refine wpList_nil (X_then (hK29_ _ _ ?_))
 clear hK29_
 refine C_seq (fun K30_ hK30_ => C_reg ?_)
 refine sv (v := (vA #[(Value.nilIface), (Value.nilIface), (Value.nilIface)])) (by kernel_rfl) ?_
 refine sv (v := (vA #[(Value.nilIface), (Value.nilIface), (Value.nilIface), (Value.nilIface), (vP none), (vP none), (vP none), (vI .i64 0)])) (by kernel_rfl) ?_
 refine S_list (T_boxf (v := (vA #[(Value.nilIface), (Value.nilIface), (Value.nilIface), (Value.nilIface), (vP none), (vP none), (vP none), (vI .i64 0)])) rfl H25_ ?_)
 intro b31_ w32_ S34_ H33_
 have S35_ := Same.trans S27_ S34_
 refine sv (v := (vQ b31_)) (x_assign rfl) ?_
 refine wpList_nil (X_then (hK30_ _ _ ?_))
 clear hK30_
 refine C_seq (fun K36_ hK36_ => C_reg ?_)
 refine sv (v := (vQ b31_)) (x_move rfl) ?_
 refine sv (v := (vQ b31_)) (x_move rfl) ?_
 refine sv (v := (vA #[(vQ b31_), (vI .i64 0), (vQ b31_)])) (by kernel_rfl) ?_
 refine S_list (T_box (v := (vA #[(vQ b31_), (vI .i64 0), (vQ b31_)])) rfl H33_ ?_)
 intro b37_ w38_ S40_ H39_
 have S41_ := Same.trans S35_ S40_
 refine sv (v := (Value.iface 186 (vQ b37_))) (by kernel_rfl) ?_
 refine sv (v := (Value.iface 186 (vQ b37_))) (x_assign rfl) ?_
 refine wpList_nil (X_then (hK36_ _ _ ?_))
 clear hK36_
 refine C_ret ?_
 refine R_any (v := (Value.iface 186 (vQ b37_))) (run_results1 rfl rfl) ⟨_, rfl, ?_⟩
 refine sv (v := (Value.iface 186 (vQ b37_))) (x_assign rfl) ?_
 refine wpList_nil (X_then (hK28_ _ _ ?_))
 clear hK28_
 refine C_seq (fun K42_ hK42_ => ?_)
 refine C_seq (fun K43_ hK43_ => C_reg ?_)
 refine sv (v := (vQ u4_)) (x_move rfl) ?_
 refine sv (v := (vQ u4_)) (by kernel_rfl) ?_
 refine sv (v := (vP (some ⟨u4_, 2, none⟩))) (by kernel_rfl) ?_
 refine sv (v := (vS (some ⟨r5_, 0, none⟩) 1 1)) (x_load1 rfl Try.underlying28 rfl ((Holds.rd H39_ 5 rfl) 2 (vS (some ⟨r5_, 0, none⟩) 1 1) rfl)) ?_
 refine sv (v := (vI .i64 1)) (x_lenS rfl Try.underlying28) ?_
 refine sv (v := (vI .i64 0)) (x_move rfl) ?_
 refine wpList_nil (X_then (hK43_ _ _ ?_))
 clear hK43_
 refine C_block ?_
 refine C_loopN 2 ?_
 refine C_rounds (fun K44_ hK44_ => ?_)
 refine C_seq (fun K45_ hK45_ => C_reg ?_)
 refine sv (v := (vB true)) (x_bin rfl rfl rfl) ?_
 refine wpList_nil (X_then (hK45_ _ _ ?_))
 clear hK45_
 refine C_seq (fun K46_ hK46_ => ?_)
 refine C_condT rfl ?_
 refine C_skip (X_then (hK46_ _ _ ?_))
 clear hK46_
 refine C_seq (fun K47_ hK47_ => ?_)
 refine C_block ?_
 refine C_seq (fun K48_ hK48_ => C_reg ?_)
 refine sv (v := (vQ r5_)) (x_indexAddr rfl rfl Try.underlying28 z9 (by omega) (by omega) (by omega : _ = 0) (by first | rfl | simp | (congr 1; omega))) ?_
 refine sv (v := (Value.string (ByteArray.mk #[114]))) (x_load1 rfl Try.underlying9 rfl ((Holds.rd H39_ 6 rfl) 0 (Value.string (ByteArray.mk #[114])) rfl)) ?_
 refine sv (v := (Value.string (ByteArray.mk #[114]))) (x_assign rfl) ?_
 refine wpList_nil (X_then (hK48_ _ _ ?_))
 clear hK48_
 refine C_seq (fun K49_ hK49_ => C_reg ?_)
 refine sv (v := (Value.iface 177 (vA #[(vS va (List.length C) vc)]))) (x_move rfl) ?_
 refine sv (v := (Value.string (ByteArray.mk #[114]))) (x_move rfl) ?_
 have H53_ := ((Holds.bring H39_ 4 rfl) :)
 refine S_list (T_invoke (al := [(vA #[(vS va (List.length C) vc)]), (Value.string (ByteArray.mk #[114]))]) (pre := []) rfl (fun w => by kernel_rfl) rfl cb139 (zzRole R va vc (List.length C) (ByteArray.mk #[114])) H53_ ?_)
 rintro v50_ p57_ w54_ ⟨u51_, b52_, rfl, rfl⟩ S56_ H55_
 have S58_ := Same.trans S41_ S56_
 refine sv (v := (vQ u51_)) (x_assign rfl) ?_
 refine wpList_nil (X_then (hK49_ _ _ ?_))
 clear hK49_
 refine C_seq (fun K59_ hK59_ => ?_)
 refine C_seq (fun K60_ hK60_ => C_reg ?_)
 refine sv (v := (vQ u51_)) (x_move rfl) ?_
 refine sv (v := (vB false)) (by kernel_rfl) ?_
 refine wpList_nil (X_then (hK60_ _ _ ?_))
 clear hK60_
 refine C_condF rfl ?_
 refine C_skip (X_then (hK59_ _ _ ?_))
 clear hK59_
 refine C_seq (fun K61_ hK61_ => C_reg ?_)
 refine sv (v := (vQ u51_)) (x_move rfl) ?_
 refine sv (v := (vQ u51_)) (by kernel_rfl) ?_
 refine sv (v := (vP (some ⟨u51_, 1, none⟩))) (by kernel_rfl) ?_
 refine sv (v := (vS va (List.length C) vc)) (x_load1 rfl Try.underlying118 rfl ((Holds.rd H55_ 1 rfl) 1 (vS va (List.length C) vc) rfl)) ?_
 refine sv (v := (vI .i64 ((List.length C) : Int))) (x_lenRS rfl hv Try.underlying118) ?_
 refine sv (v := (vI .i64 0)) (x_move rfl) ?_
 refine wpList_nil (X_then (hK61_ _ _ ?_))
 clear hK61_
 refine C_block ?_
 have H62_ : Holds w54_ (tr b17_ b17_ (Tr.lf : Tr (List UInt8)) :: ro R :: cl u51_ 246 [(vS (some ⟨b52_, 0, none⟩) 1 1), (vS va (List.length C) vc)] :: cl b37_ 188 [(vQ b31_), (vI .i64 0), (vQ b31_)] :: clf b31_ 185 [(Value.nilIface), (Value.nilIface), (Value.nilIface), (Value.nilIface), (vP none), (vP none), (vP none), (vI .i64 0)] :: cl b23_ 188 [(vQ b17_), (vI .i64 0), (vQ b17_)] :: clf b17_ 185 [(Value.nilIface), (Value.nilIface), (Value.nilIface), (Value.nilIface), (vP none), (vP none), (vP none), (vI .i64 0)] :: cl u4_ 242 [(vS (some ⟨b6_, 0, none⟩) 1 1), (vS none 0 0), (vS (some ⟨r5_, 0, none⟩) 1 1), (vP none)] :: cl r5_ 9 [(Value.string (ByteArray.mk #[114]))] :: F) := Holds.lf_tr H55_
 have H63_ : Holds w54_ (tr b31_ b31_ (Tr.lf : Tr (List UInt8)) :: tr b17_ b17_ (Tr.lf : Tr (List UInt8)) :: ro R :: cl u51_ 246 [(vS (some ⟨b52_, 0, none⟩) 1 1), (vS va (List.length C) vc)] :: cl b37_ 188 [(vQ b31_), (vI .i64 0), (vQ b31_)] :: clf b31_ 185 [(Value.nilIface), (Value.nilIface), (Value.nilIface), (Value.nilIface), (vP none), (vP none), (vP none), (vI .i64 0)] :: cl b23_ 188 [(vQ b17_), (vI .i64 0), (vQ b17_)] :: clf b17_ 185 [(Value.nilIface), (Value.nilIface), (Value.nilIface), (Value.nilIface), (vP none), (vP none), (vP none), (vI .i64 0)] :: cl u4_ 242 [(vS (some ⟨b6_, 0, none⟩) 1 1), (vS none 0 0), (vS (some ⟨r5_, 0, none⟩) 1 1), (vP none)] :: cl r5_ 9 [(Value.string (ByteArray.mk #[114]))] :: F) := Holds.lf_tr H62_
 have H64_ := Holds.recl H63_ 4 rfl ((lcons ((by first | rfl | omega | (simp; done) | (simp; omega)) : (vQ b31_) = (vQ ((rt b31_ (Tr.lf : Tr (List UInt8)))))) rfl) : [(vQ b31_), (vI .i64 0), (vQ b31_)] = [(vQ ((rt b31_ (Tr.lf : Tr (List UInt8))))), (vI .i64 0), (vQ b31_)])
 have H65_ := Holds.recl H64_ 6 rfl ((lcons ((by first | rfl | omega | (simp; done) | (simp; omega)) : (vQ b17_) = (vQ ((rt b17_ (Tr.lf : Tr (List UInt8)))))) rfl) : [(vQ b17_), (vI .i64 0), (vQ b17_)] = [(vQ ((rt b17_ (Tr.lf : Tr (List UInt8))))), (vI .i64 0), (vQ b17_)])
 have H66_ : Holds w54_ (tr b31_ b31_ (Tr.lf : Tr (List UInt8)) :: tr b17_ b17_ (Tr.lf : Tr (List UInt8)) :: ro R :: cl b37_ 188 [(vQ ((rt b31_ (Tr.lf : Tr (List UInt8))))), (vI .i64 0), (vQ b31_)] :: clf b31_ 185 [(Value.nilIface), (Value.nilIface), (Value.nilIface), (Value.nilIface), (vP none), (vP none), (vP none), (vI .i64 0)] :: cl b23_ 188 [(vQ ((rt b17_ (Tr.lf : Tr (List UInt8))))), (vI .i64 0), (vQ b17_)] :: clf b17_ 185 [(Value.nilIface), (Value.nilIface), (Value.nilIface), (Value.nilIface), (vP none), (vP none), (vP none), (vI .i64 0)] :: F) := (Holds.pkF H65_ [0, 0, 0, 1, 1, 1, 1] 3 :)
 refine C_loop (γ := HP × Nat × (Tr (List UInt8)) × (Tr (List UInt8)) × Int × Int) (fun x__ a__ w1__ => match x__ with | ⟨R1, k, W1, W2, c1, c2⟩ => ∃ h : Env, a__ = mkA 117 (upd (upd (upd (upd (upd (upd (upd h 6 (Value.iface 186 (vQ b23_))) 7 (Value.iface 186 (vQ b37_))) 26 (vI .i64 1)) 27 (vI .i64 0)) 39 (vS va (List.length C) vc)) 40 (vI .i64 ((List.length C) : Int))) 41 (vI .i64 (k : Int))) [] ∧ Holds w1__ (tr b31_ b31_ W2 :: tr b17_ b17_ W1 :: ro R1 :: cl b37_ 188 [(vQ (rt b31_ W2)), (vI .i64 c2), (vQ b31_)] :: clf b31_ 185 [(Value.nilIface), (Value.nilIface), (Value.nilIface), (Value.nilIface), (vP none), (vP none), (vP none), (vI .i64 0)] :: cl b23_ 188 [(vQ (rt b17_ W1)), (vI .i64 c1), (vQ b17_)] :: clf b17_ 185 [(Value.nilIface), (Value.nilIface), (Value.nilIface), (Value.nilIface), (vP none), (vP none), (vP none), (vI .i64 0)] :: F) ∧ Same w w1__ ∧ (Sub R R1) ∧ (k ≤ C.length) ∧ (TI BO R1 W1 (pivls (l.take k) 0)) ∧ (TI BO R1 W2 (pivls (l.take k) 1)) ∧ (0 ≤ c1 ∧ c1 ≤ k ∧ 0 ≤ c2 ∧ c2 ≤ k)) (fun x__ => match x__ with | ⟨R1, k, W1, W2, c1, c2⟩ => C.length - k) (⟨R, 0, (Tr.lf : Tr (List UInt8)), (Tr.lf : Tr (List UInt8)), 0, 0⟩) ⟨_, congrArg (fun e => mkA 117 e []) (ch (ch (ch (ch (ch (ch (ch rfl rfl) rfl) rfl) rfl) rfl) rfl) (congrArg (vI .i64) ((by first | rfl | omega | (simp; done) | (simp; omega)) : 0 = (0 : Int)))), H66_, S58_, (Sub.rfl' _), (by first | assumption | omega | exact rfl), (TI.nil), (TI.nil), (by first | assumption | omega | exact rfl)⟩ ?_
 rintro ⟨R1, k, W1, W2, c1, c2⟩ _ w67_ ⟨h, rfl, H68_, S69_, hsR1, hk, hT1, hT2, hcc⟩
 refine C_seq (fun K70_ hK70_ => C_reg ?_)
 refine sv (v := (vB (decide ((k : Int) < ((List.length C) : Int))))) (x_bin rfl rfl rfl) ?_
 refine wpList_nil (X_then (hK70_ _ _ ?_))
 clear hK70_
 refine C_seq (fun K71_ hK71_ => ?_)
 refine C_cond (b := decide ((k : Int) < ((List.length C) : Int))) rfl (fun c72_t => ?_) (fun c72_f => ?_)
 ·have c72_tp : (k : Int) < ((List.length C) : Int) := of_decide_eq_true c72_t
  refine C_skip (X_then (hK71_ _ _ ?_))
  clear hK71_
  refine C_seq (fun K73_ hK73_ => ?_)
  refine C_block ?_
  refine C_seq (fun K74_ hK74_ => C_reg ?_)
  obtain ⟨p75_, hx76_, hm77_⟩ := elem_at C k (by omega)
  obtain ⟨y78_, hy79_, kv80_, ev81_, hkv82_, hev83_, hrc84_⟩ := hC.at_ hx76_
  have := ints_length y78_.key
  have := ints_length y78_.end_
  have hpo_ := hl y78_ (List.mem_of_getElem? hy79_)
  have hpk_ := hpo_.k
  have hp1_ := hpo_.s1
  have hp2_ := hpo_.s2
  refine sv (v := (vP (some ⟨(sb (.slice va (List.length C) vc)), so (.slice va (List.length C) vc) + k, none⟩))) (x_idxRS (v := (vS va (List.length C) vc)) rfl (RS.mono hv hsR1) rfl Try.underlying118 z119 (by omega) (by omega) (by omega : _ = k) (by rw [Nat.mul_one])) ?_
  refine sv (v := (vQ p75_)) (x_load1 rfl Try.underlying119 rfl (RC.cell (RS.rc (RS.mono hv hsR1)) (Holds.ro_at H68_ 2 rfl) (j := k) (u := (vQ p75_)) ((map_at hx76_)))) ?_
  refine sv (v := (vQ p75_)) (x_assign rfl) ?_
  refine wpList_nil (X_then (hK74_ _ _ ?_))
  clear hK74_
  refine C_seq (fun K85_ hK85_ => C_reg ?_)
  refine S_list (T_alloc z111 H68_ ?_)
  intro b86_ w87_ S89_ H88_
  have S90_ := Same.trans S69_ S89_
  refine wpList_nil (X_then (hK85_ _ _ ?_))
  clear hK85_
  refine C_seq (fun K91_ hK91_ => C_reg ?_)
  refine sv (v := (vS none 0 0)) (x_assign rfl) ?_
  refine wpList_nil (X_then (hK91_ _ _ ?_))
  clear hK91_
  refine C_seq (fun K92_ hK92_ => ?_)
  refine C_seq (fun K93_ hK93_ => C_reg ?_)
  refine sv (v := (vQ p75_)) (x_move rfl) ?_
  refine sv (v := (vQ p75_)) (by kernel_rfl) ?_
  refine sv (v := (vP (some ⟨p75_, 2, none⟩))) (by kernel_rfl) ?_
  refine sv (v := ev81_) (x_load1 rfl Try.underlying122 rfl (RC.cell (hrc84_.mono hsR1) (Holds.ro_at H88_ 3 rfl) (j := 2) (u := ev81_) (rfl))) ?_
  refine sv (v := (vI .i64 ((List.length (ints y78_.end_)) : Int))) (x_lenRS rfl (RS.mono hev83_ hsR1) Try.underlying122) ?_
  refine sv (v := (vB (decide (((List.length (ints y78_.end_)) : Int) ≠ 1)))) (x_bin rfl rfl rfl) ?_
  refine sv (v := (vB (decide (((List.length (ints y78_.end_)) : Int) ≠ 1)))) (x_move rfl) ?_
  rcases Bool.eq_false_or_eq_true (decide (((List.length (ints y78_.end_)) : Int) ≠ 1)) with c94_t | c94_f
  ·have c94_tp : ((List.length (ints y78_.end_)) : Int) ≠ 1 := of_decide_eq_true c94_t
   refine S_no (j := 6) (dj := 51) (b := true) rfl rfl (congrArg vB c94_t) (by decide) ?_
   refine S_no (j := 6) (dj := 51) (b := true) rfl rfl (congrArg vB c94_t) (by decide) ?_
   refine S_no (j := 6) (dj := 51) (b := true) rfl rfl (congrArg vB c94_t) (by decide) ?_
   refine S_no (j := 6) (dj := 51) (b := true) rfl rfl (congrArg vB c94_t) (by decide) ?_
   refine S_no (j := 6) (dj := 51) (b := true) rfl rfl (congrArg vB c94_t) (by decide) ?_
   refine S_no (j := 6) (dj := 51) (b := true) rfl rfl (congrArg vB c94_t) (by decide) ?_
   refine S_no (j := 6) (dj := 51) (b := true) rfl rfl (congrArg vB c94_t) (by decide) ?_
   refine S_list (T_pickT (v := (vB true)) (congrArg vB c94_t) rfl ?_)
   refine wpList_nil (X_then (hK93_ _ _ ?_))
   clear hK93_
   refine C_condT rfl ?_
   refine C_reg ?_
   refine sv (v := (vQ p75_)) (x_move rfl) ?_
   refine sv (v := (vQ p75_)) (by kernel_rfl) ?_
   refine sv (v := (vP (some ⟨p75_, 2, none⟩))) (by kernel_rfl) ?_
   refine sv (v := ev81_) (x_load1 rfl Try.underlying122 rfl (RC.cell (hrc84_.mono hsR1) (Holds.ro_at H88_ 3 rfl) (j := 2) (u := ev81_) (rfl))) ?_
   refine sv (v := ev81_) (x_assign rfl) ?_
   refine wpList_nil (X_then (hK92_ _ _ ?_))
   clear hK92_
   refine C_seq (fun K95_ hK95_ => ?_)
   refine C_seq (fun K96_ hK96_ => C_reg ?_)
   refine sv (v := (vQ p75_)) (x_move rfl) ?_
   refine sv (v := (vQ p75_)) (by kernel_rfl) ?_
   refine sv (v := (vP (some ⟨p75_, 2, none⟩))) (by kernel_rfl) ?_
   refine sv (v := ev81_) (x_load1 rfl Try.underlying122 rfl (RC.cell (hrc84_.mono hsR1) (Holds.ro_at H88_ 3 rfl) (j := 2) (u := ev81_) (rfl))) ?_
   refine sv (v := (vI .i64 ((List.length (ints y78_.end_)) : Int))) (x_lenRS rfl (RS.mono hev83_ hsR1) Try.underlying122) ?_
   refine sv (v := (vB (decide (((List.length (ints y78_.end_)) : Int) ≠ 0)))) (x_bin rfl rfl rfl) ?_
   refine wpList_nil (X_then (hK96_ _ _ ?_))
   clear hK96_
   refine C_cond (b := decide (((List.length (ints y78_.end_)) : Int) ≠ 0)) rfl (fun c97_t => ?_) (fun c97_f => ?_)
   ·have c97_tp : ((List.length (ints y78_.end_)) : Int) ≠ 0 := of_decide_eq_true c97_t
    refine C_reg ?_
    refine sv (v := (vQ p75_)) (x_move rfl) ?_
    refine sv (v := (vQ p75_)) (by kernel_rfl) ?_
    refine sv (v := (vP (some ⟨p75_, 1, none⟩))) (by kernel_rfl) ?_
    refine sv (v := kv80_) (x_load1 rfl Try.underlying122 rfl (RC.cell (hrc84_.mono hsR1) (Holds.ro_at H88_ 3 rfl) (j := 1) (u := kv80_) (rfl))) ?_
    refine sv (v := ev81_) (x_move rfl) ?_
    refine S_list (T_callW (al := [kv80_, ev81_]) rfl rfl cb101 (Calls.into (n := 10) (al := [kv80_, ev81_]) Try.func101 rfl Try.ntmps101 rfl rfl ?_))
    refine C_seq (fun K98_ hK98_ => C_reg ?_)
    refine S_list (T_alloc z111 H88_ ?_)
    intro b99_ w100_ S102_ H101_
    have S103_ := Same.trans S90_ S102_
    refine wpList_nil (X_then (hK98_ _ _ ?_))
    clear hK98_
    refine C_seq (fun K104_ hK104_ => C_reg ?_)
    refine sv (v := kv80_) (x_move rfl) ?_
    refine sv (v := (Value.iface 168 kv80_)) (by kernel_rfl) ?_
    refine sv (v := ev81_) (x_move rfl) ?_
    refine sv (v := (Value.iface 168 ev81_)) (by kernel_rfl) ?_
    refine sv (v := (vA #[(Value.iface 168 kv80_), (Value.iface 168 ev81_)])) (by kernel_rfl) ?_
    refine S_list0 (T_storeN (vs := [(Value.iface 168 kv80_), (Value.iface 168 ev81_)]) rfl rfl z111 rfl (by simp [Value.oneCell']) H101_ 0 rfl (Nat.le_of_ble_eq_true (by rfl)) ?_)
    intro w105_ S107_ H106_
    have S108_ := Same.trans S103_ S107_
    refine wpList_nil (X_then (hK104_ _ _ ?_))
    clear hK104_
    refine C_ret ?_
    refine R_any (v := (vA #[(Value.iface 168 kv80_), (Value.iface 168 ev81_)])) (run_results1 rfl ⟨_, rfl, load_resN Try.underlying111 rfl z111 rfl (vs := [(Value.iface 168 kv80_), (Value.iface 168 ev81_)]) (Holds.cl_cells H106_ 0 rfl 0 rfl)⟩) ⟨_, rfl, ?_⟩
    refine S_list0 (T_storeN (vs := [(Value.iface 168 kv80_), (Value.iface 168 ev81_)]) rfl rfl z111 rfl (by simp [Value.oneCell']) H106_ 1 rfl (Nat.le_of_ble_eq_true (by rfl)) ?_)
    intro w109_ S111_ H110_
    have S112_ := Same.trans S108_ S111_
    refine wpList_nil (X_then (hK95_ _ _ ?_))
    clear hK95_
    refine C_seq (fun K113_ hK113_ => C_reg ?_)
    refine sv (v := (vQ p75_)) (x_move rfl) ?_
    refine sv (v := (vQ p75_)) (by kernel_rfl) ?_
    refine sv (v := (vQ p75_)) (by kernel_rfl) ?_
    refine sv (v := (vI .i32 y78_.kind)) (x_load1 rfl Try.underlying123 rfl (RC.cell (hrc84_.mono hsR1) (Holds.ro_at H110_ 4 rfl) (j := 0) (u := (vI .i32 y78_.kind)) (rfl))) ?_
    refine wpList_nil (X_then (hK113_ _ _ ?_))
    clear hK113_
    refine C_block ?_
    refine C_seq (fun K114_ hK114_ => C_reg ?_)
    refine sv (v := (vB (decide (y78_.kind = 2)))) (x_bin rfl rfl rfl) ?_
    refine sv (v := (vB (decide (y78_.kind = 2)))) (x_assign rfl) ?_
    refine wpList_nil (X_then (hK114_ _ _ ?_))
    clear hK114_
    refine C_cond (b := decide (y78_.kind = 2)) rfl (fun c115_t => ?_) (fun c115_f => ?_)
    ·have c115_tp : y78_.kind = 2 := of_decide_eq_true c115_t
     refine C_seq (fun K116_ hK116_ => C_reg ?_)
     refine sv (v := (Value.iface 186 (vQ b23_))) (x_move rfl) ?_
     refine sv (v := (vA #[(Value.iface 168 kv80_), (Value.iface 168 ev81_)])) (x_loadN (vs := [(Value.iface 168 kv80_), (Value.iface 168 ev81_)]) rfl Try.underlying111 rfl z111 rfl (Rd.cells (Holds.rd H110_ 1 rfl) 0 rfl)) ?_
     refine sv (v := (vA #[])) (by kernel_rfl) ?_
     refine sv (v := (Value.iface 205 (vA #[]))) (by kernel_rfl) ?_
     have hhi117_ : y78_.hi = y78_.end_.data.toList := PM.hi_end (by omega) (by first | exact bytes_len (by omega) | exact bytes_not rfl (by omega))
     have H128_ := ((Holds.bring (Holds.bring (Holds.bring (Holds.bring H110_ 8 rfl) 4 rfl) 8 rfl) 6 rfl) :)
     refine S_list (T_invoke (al := [(vQ b23_), (vA #[((Value.iface 168 kv80_)), ((Value.iface 168 ev81_))]), ((Value.iface 205 (vA #[])))]) (pre := [cl b23_ 188 [(vQ (rt b17_ W1)), (vI .i64 c1), (vQ b17_)], tr b17_ b17_ W1, clf b17_ 185 [(Value.nilIface), (Value.nilIface), (Value.nilIface), (Value.nilIface), (vP none), (vP none), (vP none), (vI .i64 0)]]) rfl (fun w => by kernel_rfl) (lcons rfl (lcons (congrArg (fun l => vA (List.toArray l)) (lcons (rfl : (Value.iface 168 kv80_) = ((Value.iface 168 kv80_))) (lcons (rfl : (Value.iface 168 ev81_) = ((Value.iface 168 ev81_))) rfl))) (lcons (rfl : (Value.iface 205 (vA #[])) = ((Value.iface 205 (vA #[])))) rfl))) cb147 (itInsert R1 (List UInt8) BO b23_ b17_ c1 [(Value.nilIface), (Value.nilIface), (Value.nilIface), (Value.nilIface), (vP none), (vP none), (vP none), (vI .i64 0)] W1 168 168 205 kv80_ ev81_ (vA #[]) y78_.lo y78_.hi ((hT1).ok) (⟨kv80_, ints y78_.key, rfl, (RS.mono hkv82_ hsR1), (u8s_ints y78_.key).symm⟩) (⟨ev81_, ints y78_.end_, rfl, (RS.mono hev83_ hsR1), hhi117_.trans (u8s_ints y78_.end_).symm⟩) (by first | assumption | omega) (hT1.s)) H128_ ?_)
     rintro v118_ p132_ w129_ ⟨W119_, L1120_, L2121_, z122_, rfl, rfl, he123_, he124_, he125_, he126_, he127_⟩ S131_ H130_
     have S133_ := Same.trans S112_ S131_
     have hTn134_ : TI BO R1 W119_ (pivls (l.take (k + 1)) 0) := by rw [pivls_yes hy79_ (by omega)]; exact TI.ins hT1 he123_ he124_ he125_ he126_ he127_
     refine wpList_nil (X_then (hK116_ _ _ ?_))
     clear hK116_
     refine C_reg ?_
     refine sv (v := (Value.iface 186 (vQ b37_))) (x_move rfl) ?_
     refine sv (v := (vA #[(Value.iface 168 kv80_), (Value.iface 168 ev81_)])) (x_loadN (vs := [(Value.iface 168 kv80_), (Value.iface 168 ev81_)]) rfl Try.underlying111 rfl z111 rfl (Rd.cells (Holds.rd H130_ 5 rfl) 0 rfl)) ?_
     refine sv (v := (vA #[])) (by kernel_rfl) ?_
     refine sv (v := (Value.iface 205 (vA #[]))) (by kernel_rfl) ?_
     have H145_ := ((Holds.bring (Holds.bring (Holds.bring (Holds.bring H130_ 8 rfl) 7 rfl) 8 rfl) 3 rfl) :)
     refine S_list (T_invoke (al := [(vQ b37_), (vA #[((Value.iface 168 kv80_)), ((Value.iface 168 ev81_))]), ((Value.iface 205 (vA #[])))]) (pre := [cl b37_ 188 [(vQ (rt b31_ W2)), (vI .i64 c2), (vQ b31_)], tr b31_ b31_ W2, clf b31_ 185 [(Value.nilIface), (Value.nilIface), (Value.nilIface), (Value.nilIface), (vP none), (vP none), (vP none), (vI .i64 0)]]) rfl (fun w => by kernel_rfl) (lcons rfl (lcons (congrArg (fun l => vA (List.toArray l)) (lcons (rfl : (Value.iface 168 kv80_) = ((Value.iface 168 kv80_))) (lcons (rfl : (Value.iface 168 ev81_) = ((Value.iface 168 ev81_))) rfl))) (lcons (rfl : (Value.iface 205 (vA #[])) = ((Value.iface 205 (vA #[])))) rfl))) cb147 (itInsert R1 (List UInt8) BO b37_ b31_ c2 [(Value.nilIface), (Value.nilIface), (Value.nilIface), (Value.nilIface), (vP none), (vP none), (vP none), (vI .i64 0)] W2 168 168 205 kv80_ ev81_ (vA #[]) y78_.lo y78_.hi ((hT2).ok) (⟨kv80_, ints y78_.key, rfl, (RS.mono hkv82_ hsR1), (u8s_ints y78_.key).symm⟩) (⟨ev81_, ints y78_.end_, rfl, (RS.mono hev83_ hsR1), hhi117_.trans (u8s_ints y78_.end_).symm⟩) (by first | assumption | omega) (hT2.s)) H145_ ?_)
     rintro v135_ p149_ w146_ ⟨W136_, L1137_, L2138_, z139_, rfl, rfl, he140_, he141_, he142_, he143_, he144_⟩ S148_ H147_
     have S150_ := Same.trans S133_ S148_
     have hTn151_ : TI BO R1 W136_ (pivls (l.take (k + 1)) 1) := by rw [pivls_yes hy79_ (by omega)]; exact TI.ins hT2 he140_ he141_ he142_ he143_ he144_
     refine wpList_nil (X_blkN (X_blkN (X_then (hK73_ _ _ ?_))))
     clear hK73_
     refine C_reg ?_
     refine sv (v := (vI .i64 ((k : Int) + 1))) (x_bin rfl rfl (ib_add (IntWalk.i64_in _ (by omega)))) ?_
     refine sv (v := (vI .i64 ((k : Int) + 1))) (x_move rfl) ?_
     refine wpList_nil (X_then ?_)
     have H152_ : Holds w146_ (tr b31_ b31_ W136_ :: tr b17_ b17_ W119_ :: ro R1 :: cl b37_ 188 [(vQ (rt b31_ W136_)), (vI .i64 (c2 + 1)), (vQ b31_)] :: clf b31_ 185 [(Value.nilIface), (Value.nilIface), (Value.nilIface), (Value.nilIface), (vP none), (vP none), (vP none), (vI .i64 0)] :: cl b23_ 188 [(vQ (rt b17_ W119_)), (vI .i64 (c1 + 1)), (vQ b17_)] :: clf b17_ 185 [(Value.nilIface), (Value.nilIface), (Value.nilIface), (Value.nilIface), (vP none), (vP none), (vP none), (vI .i64 0)] :: F) := (Holds.pkF H147_ [2, 4, 0, 0, 0, 0, 0] 2 :)
     exact ⟨⟨R1, k + 1, W119_, W136_, c1 + 1, c2 + 1⟩, ⟨_, congrArg (fun e => mkA 117 e []) (ch (ch (ch (ch (ch (ch (ch rfl rfl) rfl) rfl) rfl) rfl) rfl) (congrArg (vI .i64) ((by first | rfl | omega | (simp; done) | (simp; omega)) : (k : Int) + 1 = ((k + 1 : Nat) : Int)))), H152_, S150_, (hsR1), (by first | assumption | omega | exact rfl), (hTn134_), (hTn151_), (by first | assumption | omega | exact rfl)⟩, by first | omega | (dsimp only; omega) | (simp; omega)⟩
    ·have c115_fp : ¬ (y78_.kind = 2) := of_decide_eq_false c115_f
     refine C_seq (fun K153_ hK153_ => C_reg ?_)
     refine sv (v := (vB (decide (y78_.kind = 0)))) (x_bin rfl rfl rfl) ?_
     refine sv (v := (vB (decide (y78_.kind = 0)))) (x_assign rfl) ?_
     refine wpList_nil (X_then (hK153_ _ _ ?_))
     clear hK153_
     refine C_cond (b := decide (y78_.kind = 0)) rfl (fun c154_t => ?_) (fun c154_f => ?_)
     ·have c154_tp : y78_.kind = 0 := of_decide_eq_true c154_t
      refine C_reg ?_
      refine sv (v := (Value.iface 186 (vQ b23_))) (x_move rfl) ?_
      refine sv (v := (vA #[(Value.iface 168 kv80_), (Value.iface 168 ev81_)])) (x_loadN (vs := [(Value.iface 168 kv80_), (Value.iface 168 ev81_)]) rfl Try.underlying111 rfl z111 rfl (Rd.cells (Holds.rd H110_ 1 rfl) 0 rfl)) ?_
      refine sv (v := (vA #[])) (by kernel_rfl) ?_
      refine sv (v := (Value.iface 205 (vA #[]))) (by kernel_rfl) ?_
      have hhi155_ : y78_.hi = y78_.end_.data.toList := PM.hi_end (by omega) (by first | exact bytes_len (by omega) | exact bytes_not rfl (by omega))
      have H166_ := ((Holds.bring (Holds.bring (Holds.bring (Holds.bring H110_ 8 rfl) 4 rfl) 8 rfl) 6 rfl) :)
      refine S_list (T_invoke (al := [(vQ b23_), (vA #[((Value.iface 168 kv80_)), ((Value.iface 168 ev81_))]), ((Value.iface 205 (vA #[])))]) (pre := [cl b23_ 188 [(vQ (rt b17_ W1)), (vI .i64 c1), (vQ b17_)], tr b17_ b17_ W1, clf b17_ 185 [(Value.nilIface), (Value.nilIface), (Value.nilIface), (Value.nilIface), (vP none), (vP none), (vP none), (vI .i64 0)]]) rfl (fun w => by kernel_rfl) (lcons rfl (lcons (congrArg (fun l => vA (List.toArray l)) (lcons (rfl : (Value.iface 168 kv80_) = ((Value.iface 168 kv80_))) (lcons (rfl : (Value.iface 168 ev81_) = ((Value.iface 168 ev81_))) rfl))) (lcons (rfl : (Value.iface 205 (vA #[])) = ((Value.iface 205 (vA #[])))) rfl))) cb147 (itInsert R1 (List UInt8) BO b23_ b17_ c1 [(Value.nilIface), (Value.nilIface), (Value.nilIface), (Value.nilIface), (vP none), (vP none), (vP none), (vI .i64 0)] W1 168 168 205 kv80_ ev81_ (vA #[]) y78_.lo y78_.hi ((hT1).ok) (⟨kv80_, ints y78_.key, rfl, (RS.mono hkv82_ hsR1), (u8s_ints y78_.key).symm⟩) (⟨ev81_, ints y78_.end_, rfl, (RS.mono hev83_ hsR1), hhi155_.trans (u8s_ints y78_.end_).symm⟩) (by first | assumption | omega) (hT1.s)) H166_ ?_)
      rintro v156_ p170_ w167_ ⟨W157_, L1158_, L2159_, z160_, rfl, rfl, he161_, he162_, he163_, he164_, he165_⟩ S169_ H168_
      have S171_ := Same.trans S112_ S169_
      have hTn172_ : TI BO R1 W157_ (pivls (l.take (k + 1)) 0) := by rw [pivls_yes hy79_ (by omega)]; exact TI.ins hT1 he161_ he162_ he163_ he164_ he165_
      refine wpList_nil (X_blkN (X_blkN (X_then (hK73_ _ _ ?_))))
      clear hK73_
      refine C_reg ?_
      refine sv (v := (vI .i64 ((k : Int) + 1))) (x_bin rfl rfl (ib_add (IntWalk.i64_in _ (by omega)))) ?_
      refine sv (v := (vI .i64 ((k : Int) + 1))) (x_move rfl) ?_
      refine wpList_nil (X_then ?_)
      have H173_ : Holds w167_ (tr b31_ b31_ W2 :: tr b17_ b17_ W157_ :: ro R1 :: cl b37_ 188 [(vQ (rt b31_ W2)), (vI .i64 c2), (vQ b31_)] :: clf b31_ 185 [(Value.nilIface), (Value.nilIface), (Value.nilIface), (Value.nilIface), (vP none), (vP none), (vP none), (vI .i64 0)] :: cl b23_ 188 [(vQ (rt b17_ W157_)), (vI .i64 (c1 + 1)), (vQ b17_)] :: clf b17_ 185 [(Value.nilIface), (Value.nilIface), (Value.nilIface), (Value.nilIface), (vP none), (vP none), (vP none), (vI .i64 0)] :: F) := (Holds.pkF H168_ [6, 2, 0, 4, 4, 0, 0] 2 :)
      exact ⟨⟨R1, k + 1, W157_, W2, c1 + 1, c2⟩, ⟨_, congrArg (fun e => mkA 117 e []) (ch (ch (ch (ch (ch (ch (ch rfl rfl) rfl) rfl) rfl) rfl) rfl) (congrArg (vI .i64) ((by first | rfl | omega | (simp; done) | (simp; omega)) : (k : Int) + 1 = ((k + 1 : Nat) : Int)))), H173_, S171_, (hsR1), (by first | assumption | omega | exact rfl), (hTn172_), ((by rw [pivls_no hy79_ (by omega)]; exact hT2)), (by first | assumption | omega | exact rfl)⟩, by first | omega | (dsimp only; omega) | (simp; omega)⟩
     ·have c154_fp : ¬ (y78_.kind = 0) := of_decide_eq_false c154_f
      refine C_seq (fun K174_ hK174_ => C_reg ?_)
      refine sv (v := (vB (decide (y78_.kind = 1)))) (x_bin rfl rfl rfl) ?_
      refine sv (v := (vB (decide (y78_.kind = 1)))) (x_assign rfl) ?_
      refine wpList_nil (X_then (hK174_ _ _ ?_))
      clear hK174_
      refine C_cond (b := decide (y78_.kind = 1)) rfl (fun c175_t => ?_) (fun c175_f => ?_)
      ·have c175_tp : y78_.kind = 1 := of_decide_eq_true c175_t
       refine C_reg ?_
       refine sv (v := (Value.iface 186 (vQ b37_))) (x_move rfl) ?_
       refine sv (v := (vA #[(Value.iface 168 kv80_), (Value.iface 168 ev81_)])) (x_loadN (vs := [(Value.iface 168 kv80_), (Value.iface 168 ev81_)]) rfl Try.underlying111 rfl z111 rfl (Rd.cells (Holds.rd H110_ 1 rfl) 0 rfl)) ?_
       refine sv (v := (vA #[])) (by kernel_rfl) ?_
       refine sv (v := (Value.iface 205 (vA #[]))) (by kernel_rfl) ?_
       have hhi176_ : y78_.hi = y78_.end_.data.toList := PM.hi_end (by omega) (by first | exact bytes_len (by omega) | exact bytes_not rfl (by omega))
       have H187_ := ((Holds.bring (Holds.bring (Holds.bring (Holds.bring H110_ 6 rfl) 3 rfl) 6 rfl) 6 rfl) :)
       refine S_list (T_invoke (al := [(vQ b37_), (vA #[((Value.iface 168 kv80_)), ((Value.iface 168 ev81_))]), ((Value.iface 205 (vA #[])))]) (pre := [cl b37_ 188 [(vQ (rt b31_ W2)), (vI .i64 c2), (vQ b31_)], tr b31_ b31_ W2, clf b31_ 185 [(Value.nilIface), (Value.nilIface), (Value.nilIface), (Value.nilIface), (vP none), (vP none), (vP none), (vI .i64 0)]]) rfl (fun w => by kernel_rfl) (lcons rfl (lcons (congrArg (fun l => vA (List.toArray l)) (lcons (rfl : (Value.iface 168 kv80_) = ((Value.iface 168 kv80_))) (lcons (rfl : (Value.iface 168 ev81_) = ((Value.iface 168 ev81_))) rfl))) (lcons (rfl : (Value.iface 205 (vA #[])) = ((Value.iface 205 (vA #[])))) rfl))) cb147 (itInsert R1 (List UInt8) BO b37_ b31_ c2 [(Value.nilIface), (Value.nilIface), (Value.nilIface), (Value.nilIface), (vP none), (vP none), (vP none), (vI .i64 0)] W2 168 168 205 kv80_ ev81_ (vA #[]) y78_.lo y78_.hi ((hT2).ok) (⟨kv80_, ints y78_.key, rfl, (RS.mono hkv82_ hsR1), (u8s_ints y78_.key).symm⟩) (⟨ev81_, ints y78_.end_, rfl, (RS.mono hev83_ hsR1), hhi176_.trans (u8s_ints y78_.end_).symm⟩) (by first | assumption | omega) (hT2.s)) H187_ ?_)
       rintro v177_ p191_ w188_ ⟨W178_, L1179_, L2180_, z181_, rfl, rfl, he182_, he183_, he184_, he185_, he186_⟩ S190_ H189_
       have S192_ := Same.trans S112_ S190_
       have hTn193_ : TI BO R1 W178_ (pivls (l.take (k + 1)) 1) := by rw [pivls_yes hy79_ (by omega)]; exact TI.ins hT2 he182_ he183_ he184_ he185_ he186_
       refine wpList_nil (X_blkN (X_blkN (X_then (hK73_ _ _ ?_))))
       clear hK73_
       refine C_reg ?_
       refine sv (v := (vI .i64 ((k : Int) + 1))) (x_bin rfl rfl (ib_add (IntWalk.i64_in _ (by omega)))) ?_
       refine sv (v := (vI .i64 ((k : Int) + 1))) (x_move rfl) ?_
       refine wpList_nil (X_then ?_)
       have H194_ : Holds w188_ (tr b31_ b31_ W178_ :: tr b17_ b17_ W1 :: ro R1 :: cl b37_ 188 [(vQ (rt b31_ W178_)), (vI .i64 (c2 + 1)), (vQ b31_)] :: clf b31_ 185 [(Value.nilIface), (Value.nilIface), (Value.nilIface), (Value.nilIface), (vP none), (vP none), (vP none), (vI .i64 0)] :: cl b23_ 188 [(vQ (rt b17_ W1)), (vI .i64 c1), (vQ b17_)] :: clf b17_ 185 [(Value.nilIface), (Value.nilIface), (Value.nilIface), (Value.nilIface), (vP none), (vP none), (vP none), (vI .i64 0)] :: F) := (Holds.pkF H189_ [2, 5, 0, 0, 0, 2, 2] 2 :)
       exact ⟨⟨R1, k + 1, W1, W178_, c1, c2 + 1⟩, ⟨_, congrArg (fun e => mkA 117 e []) (ch (ch (ch (ch (ch (ch (ch rfl rfl) rfl) rfl) rfl) rfl) rfl) (congrArg (vI .i64) ((by first | rfl | omega | (simp; done) | (simp; omega)) : (k : Int) + 1 = ((k + 1 : Nat) : Int)))), H194_, S192_, (hsR1), (by first | assumption | omega | exact rfl), ((by rw [pivls_no hy79_ (by omega)]; exact hT1)), (hTn193_), (by first | assumption | omega | exact rfl)⟩, by first | omega | (dsimp only; omega) | (simp; omega)⟩
      ·have c175_fp : ¬ (y78_.kind = 1) := of_decide_eq_false c175_f
       refine C_skip (X_blkN (X_blkN (X_then (hK73_ _ _ ?_))))
       clear hK73_
       refine C_reg ?_
       refine sv (v := (vI .i64 ((k : Int) + 1))) (x_bin rfl rfl (ib_add (IntWalk.i64_in _ (by omega)))) ?_
       refine sv (v := (vI .i64 ((k : Int) + 1))) (x_move rfl) ?_
       refine wpList_nil (X_then ?_)
       have H195_ : Holds w109_ (tr b31_ b31_ W2 :: tr b17_ b17_ W1 :: ro R1 :: cl b37_ 188 [(vQ (rt b31_ W2)), (vI .i64 c2), (vQ b31_)] :: clf b31_ 185 [(Value.nilIface), (Value.nilIface), (Value.nilIface), (Value.nilIface), (vP none), (vP none), (vP none), (vI .i64 0)] :: cl b23_ 188 [(vQ (rt b17_ W1)), (vI .i64 c1), (vQ b17_)] :: clf b17_ 185 [(Value.nilIface), (Value.nilIface), (Value.nilIface), (Value.nilIface), (vP none), (vP none), (vP none), (vI .i64 0)] :: F) := (Holds.pkF H110_ [2, 2, 2, 2, 2, 2, 2] 2 :)
       exact ⟨⟨R1, k + 1, W1, W2, c1, c2⟩, ⟨_, congrArg (fun e => mkA 117 e []) (ch (ch (ch (ch (ch (ch (ch rfl rfl) rfl) rfl) rfl) rfl) rfl) (congrArg (vI .i64) ((by first | rfl | omega | (simp; done) | (simp; omega)) : (k : Int) + 1 = ((k + 1 : Nat) : Int)))), H195_, S112_, (hsR1), (by first | assumption | omega | exact rfl), ((by rw [pivls_no hy79_ (by omega)]; exact hT1)), ((by rw [pivls_no hy79_ (by omega)]; exact hT2)), (by first | assumption | omega | exact rfl)⟩, by first | omega | (dsimp only; omega) | (simp; omega)⟩
   ·have c97_fp : ¬ (((List.length (ints y78_.end_)) : Int) ≠ 0) := of_decide_eq_false c97_f
    refine C_reg ?_
    refine sv (v := (vQ p75_)) (x_move rfl) ?_
    refine sv (v := (vQ p75_)) (by kernel_rfl) ?_
    refine sv (v := (vP (some ⟨p75_, 1, none⟩))) (by kernel_rfl) ?_
    refine sv (v := kv80_) (x_load1 rfl Try.underlying122 rfl (RC.cell (hrc84_.mono hsR1) (Holds.ro_at H88_ 3 rfl) (j := 1) (u := kv80_) (rfl))) ?_
    have H198_ := ((Holds.bring H88_ 3 rfl) :)
    refine S_list (T_call (al := [kv80_]) (pre := []) rfl rfl cb102 (bPoint R1 kv80_ (ints y78_.key) (RS.mono hkv82_ hsR1) (by first | assumption | omega)) H198_ ?_)
    rintro v196_ p202_ w199_ ⟨b197_, rfl, rfl⟩ S201_ H200_
    have S203_ := Same.trans S90_ S201_
    refine S_list0 (T_storeN (vs := [(Value.iface 168 kv80_), (Value.iface 168 (vS (some ⟨b197_, 0, none⟩) ((ints y78_.key).length + 1) ((ints y78_.key).length + 1)))]) rfl rfl z111 rfl (by simp [Value.oneCell']) H200_ 2 rfl (Nat.le_of_ble_eq_true (by rfl)) ?_)
    intro w204_ S206_ H205_
    have S207_ := Same.trans S203_ S206_
    refine wpList_nil (X_then (hK95_ _ _ ?_))
    clear hK95_
    refine C_seq (fun K208_ hK208_ => C_reg ?_)
    refine sv (v := (vQ p75_)) (x_move rfl) ?_
    refine sv (v := (vQ p75_)) (by kernel_rfl) ?_
    refine sv (v := (vQ p75_)) (by kernel_rfl) ?_
    refine sv (v := (vI .i32 y78_.kind)) (x_load1 rfl Try.underlying123 rfl (RC.cell (hrc84_.mono hsR1) (Holds.ro_at H205_ 0 rfl) (j := 0) (u := (vI .i32 y78_.kind)) (rfl))) ?_
    refine wpList_nil (X_then (hK208_ _ _ ?_))
    clear hK208_
    refine C_block ?_
    refine C_seq (fun K209_ hK209_ => C_reg ?_)
    refine sv (v := (vB (decide (y78_.kind = 2)))) (x_bin rfl rfl rfl) ?_
    refine sv (v := (vB (decide (y78_.kind = 2)))) (x_assign rfl) ?_
    refine wpList_nil (X_then (hK209_ _ _ ?_))
    clear hK209_
    refine C_cond (b := decide (y78_.kind = 2)) rfl (fun c210_t => ?_) (fun c210_f => ?_)
    ·have c210_tp : y78_.kind = 2 := of_decide_eq_true c210_t
     refine C_seq (fun K211_ hK211_ => C_reg ?_)
     refine sv (v := (Value.iface 186 (vQ b23_))) (x_move rfl) ?_
     refine sv (v := (vA #[(Value.iface 168 kv80_), (Value.iface 168 (vS (some ⟨b197_, 0, none⟩) ((ints y78_.key).length + 1) ((ints y78_.key).length + 1)))])) (x_loadN (vs := [(Value.iface 168 kv80_), (Value.iface 168 (vS (some ⟨b197_, 0, none⟩) ((ints y78_.key).length + 1) ((ints y78_.key).length + 1)))]) rfl Try.underlying111 rfl z111 rfl (Rd.cells (Holds.rd H205_ 2 rfl) 0 rfl)) ?_
     refine sv (v := (vA #[])) (by kernel_rfl) ?_
     refine sv (v := (Value.iface 205 (vA #[]))) (by kernel_rfl) ?_
     have hhi212_ : y78_.hi = y78_.lo ++ [0] := PM.hi_pt (by omega)
     obtain ⟨R213_, hs214_, ⟨R215_, ha216_, hs217_⟩, H218_⟩ := Holds.gift H205_
     have hz_R_R213_ := Sub.trans' hsR1 hs214_
     have hr219_ : RS R213_ 1 (vS (some ⟨b197_, 0, none⟩) ((ints y78_.key).length + 1) ((ints y78_.key).length + 1)) (List.length (ints y78_.key ++ [0])) (bytesV (ints y78_.key ++ [0])) := (RS.set_ (cl_RSn (sz := 1) (k := (List.length (ints y78_.key) + 1)) ha216_ (Sub.rfl' _) (by simp [bytesV_len]) (by omega)) rfl (by simp)).mono hs217_
     have H230_ := ((Holds.bring (Holds.bring (Holds.bring (Holds.bring H218_ 7 rfl) 4 rfl) 7 rfl) 3 rfl) :)
     refine S_list (T_invoke (al := [(vQ b23_), (vA #[((Value.iface 168 kv80_)), ((Value.iface 168 (vS (some ⟨b197_, 0, none⟩) ((ints y78_.key).length + 1) ((ints y78_.key).length + 1))))]), ((Value.iface 205 (vA #[])))]) (pre := [cl b23_ 188 [(vQ (rt b17_ W1)), (vI .i64 c1), (vQ b17_)], tr b17_ b17_ W1, clf b17_ 185 [(Value.nilIface), (Value.nilIface), (Value.nilIface), (Value.nilIface), (vP none), (vP none), (vP none), (vI .i64 0)]]) rfl (fun w => by kernel_rfl) (lcons rfl (lcons (congrArg (fun l => vA (List.toArray l)) (lcons (rfl : (Value.iface 168 kv80_) = ((Value.iface 168 kv80_))) (lcons (rfl : (Value.iface 168 (vS (some ⟨b197_, 0, none⟩) ((ints y78_.key).length + 1) ((ints y78_.key).length + 1))) = ((Value.iface 168 (vS (some ⟨b197_, 0, none⟩) ((ints y78_.key).length + 1) ((ints y78_.key).length + 1))))) rfl))) (lcons (rfl : (Value.iface 205 (vA #[])) = ((Value.iface 205 (vA #[])))) rfl))) cb147 (itInsert R213_ (List UInt8) BO b23_ b17_ c1 [(Value.nilIface), (Value.nilIface), (Value.nilIface), (Value.nilIface), (vP none), (vP none), (vP none), (vI .i64 0)] W1 168 168 205 kv80_ (vS (some ⟨b197_, 0, none⟩) ((ints y78_.key).length + 1) ((ints y78_.key).length + 1)) (vA #[]) y78_.lo y78_.hi (((hT1.mono hs214_)).ok) (⟨kv80_, ints y78_.key, rfl, (RS.mono hkv82_ hz_R_R213_), (u8s_ints y78_.key).symm⟩) (⟨_, ints y78_.key ++ [0], rfl, hr219_, by rw [hhi212_, u8s_snoc0]; rfl⟩) (by first | assumption | omega) (hT1.s)) H230_ ?_)
     rintro v220_ p234_ w231_ ⟨W221_, L1222_, L2223_, z224_, rfl, rfl, he225_, he226_, he227_, he228_, he229_⟩ S233_ H232_
     have S235_ := Same.trans S207_ S233_
     have hTn236_ : TI BO R213_ W221_ (pivls (l.take (k + 1)) 0) := by rw [pivls_yes hy79_ (by omega)]; exact TI.ins (hT1.mono hs214_) he225_ he226_ he227_ he228_ he229_
     refine wpList_nil (X_then (hK211_ _ _ ?_))
     clear hK211_
     refine C_reg ?_
     refine sv (v := (Value.iface 186 (vQ b37_))) (x_move rfl) ?_
     refine sv (v := (vA #[(Value.iface 168 kv80_), (Value.iface 168 (vS (some ⟨b197_, 0, none⟩) ((ints y78_.key).length + 1) ((ints y78_.key).length + 1)))])) (x_loadN (vs := [(Value.iface 168 kv80_), (Value.iface 168 (vS (some ⟨b197_, 0, none⟩) ((ints y78_.key).length + 1) ((ints y78_.key).length + 1)))]) rfl Try.underlying111 rfl z111 rfl (Rd.cells (Holds.rd H232_ 4 rfl) 0 rfl)) ?_
     refine sv (v := (vA #[])) (by kernel_rfl) ?_
     refine sv (v := (Value.iface 205 (vA #[]))) (by kernel_rfl) ?_
     have H247_ := ((Holds.bring (Holds.bring (Holds.bring (Holds.bring H232_ 7 rfl) 6 rfl) 7 rfl) 3 rfl) :)
     refine S_list (T_invoke (al := [(vQ b37_), (vA #[((Value.iface 168 kv80_)), ((Value.iface 168 (vS (some ⟨b197_, 0, none⟩) ((ints y78_.key).length + 1) ((ints y78_.key).length + 1))))]), ((Value.iface 205 (vA #[])))]) (pre := [cl b37_ 188 [(vQ (rt b31_ W2)), (vI .i64 c2), (vQ b31_)], tr b31_ b31_ W2, clf b31_ 185 [(Value.nilIface), (Value.nilIface), (Value.nilIface), (Value.nilIface), (vP none), (vP none), (vP none), (vI .i64 0)]]) rfl (fun w => by kernel_rfl) (lcons rfl (lcons (congrArg (fun l => vA (List.toArray l)) (lcons (rfl : (Value.iface 168 kv80_) = ((Value.iface 168 kv80_))) (lcons (rfl : (Value.iface 168 (vS (some ⟨b197_, 0, none⟩) ((ints y78_.key).length + 1) ((ints y78_.key).length + 1))) = ((Value.iface 168 (vS (some ⟨b197_, 0, none⟩) ((ints y78_.key).length + 1) ((ints y78_.key).length + 1))))) rfl))) (lcons (rfl : (Value.iface 205 (vA #[])) = ((Value.iface 205 (vA #[])))) rfl))) cb147 (itInsert R213_ (List UInt8) BO b37_ b31_ c2 [(Value.nilIface), (Value.nilIface), (Value.nilIface), (Value.nilIface), (vP none), (vP none), (vP none), (vI .i64 0)] W2 168 168 205 kv80_ (vS (some ⟨b197_, 0, none⟩) ((ints y78_.key).length + 1) ((ints y78_.key).length + 1)) (vA #[]) y78_.lo y78_.hi (((hT2.mono hs214_)).ok) (⟨kv80_, ints y78_.key, rfl, (RS.mono hkv82_ hz_R_R213_), (u8s_ints y78_.key).symm⟩) (⟨_, ints y78_.key ++ [0], rfl, hr219_, by rw [hhi212_, u8s_snoc0]; rfl⟩) (by first | assumption | omega) (hT2.s)) H247_ ?_)
     rintro v237_ p251_ w248_ ⟨W238_, L1239_, L2240_, z241_, rfl, rfl, he242_, he243_, he244_, he245_, he246_⟩ S250_ H249_
     have S252_ := Same.trans S235_ S250_
     have hTn253_ : TI BO R213_ W238_ (pivls (l.take (k + 1)) 1) := by rw [pivls_yes hy79_ (by omega)]; exact TI.ins (hT2.mono hs214_) he242_ he243_ he244_ he245_ he246_
     refine wpList_nil (X_blkN (X_blkN (X_then (hK73_ _ _ ?_))))
     clear hK73_
     refine C_reg ?_
     refine sv (v := (vI .i64 ((k : Int) + 1))) (x_bin rfl rfl (ib_add (IntWalk.i64_in _ (by omega)))) ?_
     refine sv (v := (vI .i64 ((k : Int) + 1))) (x_move rfl) ?_
     refine wpList_nil (X_then ?_)
     have H254_ : Holds w248_ (tr b31_ b31_ W238_ :: tr b17_ b17_ W221_ :: ro R213_ :: cl b37_ 188 [(vQ (rt b31_ W238_)), (vI .i64 (c2 + 1)), (vQ b31_)] :: clf b31_ 185 [(Value.nilIface), (Value.nilIface), (Value.nilIface), (Value.nilIface), (vP none), (vP none), (vP none), (vI .i64 0)] :: cl b23_ 188 [(vQ (rt b17_ W221_)), (vI .i64 (c1 + 1)), (vQ b17_)] :: clf b17_ 185 [(Value.nilIface), (Value.nilIface), (Value.nilIface), (Value.nilIface), (vP none), (vP none), (vP none), (vI .i64 0)] :: F) := (Holds.pkF H249_ [2, 4, 0, 0, 0, 0, 0] 1 :)
     exact ⟨⟨R213_, k + 1, W221_, W238_, c1 + 1, c2 + 1⟩, ⟨_, congrArg (fun e => mkA 117 e []) (ch (ch (ch (ch (ch (ch (ch rfl rfl) rfl) rfl) rfl) rfl) rfl) (congrArg (vI .i64) ((by first | rfl | omega | (simp; done) | (simp; omega)) : (k : Int) + 1 = ((k + 1 : Nat) : Int)))), H254_, S252_, (hz_R_R213_), (by first | assumption | omega | exact rfl), (hTn236_), (hTn253_), (by first | assumption | omega | exact rfl)⟩, by first | omega | (dsimp only; omega) | (simp; omega)⟩
    ·have c210_fp : ¬ (y78_.kind = 2) := of_decide_eq_false c210_f
     refine C_seq (fun K255_ hK255_ => C_reg ?_)
     refine sv (v := (vB (decide (y78_.kind = 0)))) (x_bin rfl rfl rfl) ?_
     refine sv (v := (vB (decide (y78_.kind = 0)))) (x_assign rfl) ?_
     refine wpList_nil (X_then (hK255_ _ _ ?_))
     clear hK255_
     refine C_cond (b := decide (y78_.kind = 0)) rfl (fun c256_t => ?_) (fun c256_f => ?_)
     ·have c256_tp : y78_.kind = 0 := of_decide_eq_true c256_t
      refine C_reg ?_
      refine sv (v := (Value.iface 186 (vQ b23_))) (x_move rfl) ?_
      refine sv (v := (vA #[(Value.iface 168 kv80_), (Value.iface 168 (vS (some ⟨b197_, 0, none⟩) ((ints y78_.key).length + 1) ((ints y78_.key).length + 1)))])) (x_loadN (vs := [(Value.iface 168 kv80_), (Value.iface 168 (vS (some ⟨b197_, 0, none⟩) ((ints y78_.key).length + 1) ((ints y78_.key).length + 1)))]) rfl Try.underlying111 rfl z111 rfl (Rd.cells (Holds.rd H205_ 2 rfl) 0 rfl)) ?_
      refine sv (v := (vA #[])) (by kernel_rfl) ?_
      refine sv (v := (Value.iface 205 (vA #[]))) (by kernel_rfl) ?_
      have hhi257_ : y78_.hi = y78_.lo ++ [0] := PM.hi_pt (by omega)
      obtain ⟨R258_, hs259_, ⟨R260_, ha261_, hs262_⟩, H263_⟩ := Holds.gift H205_
      have hz_R_R258_ := Sub.trans' hsR1 hs259_
      have hr264_ : RS R258_ 1 (vS (some ⟨b197_, 0, none⟩) ((ints y78_.key).length + 1) ((ints y78_.key).length + 1)) (List.length (ints y78_.key ++ [0])) (bytesV (ints y78_.key ++ [0])) := (RS.set_ (cl_RSn (sz := 1) (k := (List.length (ints y78_.key) + 1)) ha261_ (Sub.rfl' _) (by simp [bytesV_len]) (by omega)) rfl (by simp)).mono hs262_
      have H275_ := ((Holds.bring (Holds.bring (Holds.bring (Holds.bring H263_ 7 rfl) 4 rfl) 7 rfl) 3 rfl) :)
      refine S_list (T_invoke (al := [(vQ b23_), (vA #[((Value.iface 168 kv80_)), ((Value.iface 168 (vS (some ⟨b197_, 0, none⟩) ((ints y78_.key).length + 1) ((ints y78_.key).length + 1))))]), ((Value.iface 205 (vA #[])))]) (pre := [cl b23_ 188 [(vQ (rt b17_ W1)), (vI .i64 c1), (vQ b17_)], tr b17_ b17_ W1, clf b17_ 185 [(Value.nilIface), (Value.nilIface), (Value.nilIface), (Value.nilIface), (vP none), (vP none), (vP none), (vI .i64 0)]]) rfl (fun w => by kernel_rfl) (lcons rfl (lcons (congrArg (fun l => vA (List.toArray l)) (lcons (rfl : (Value.iface 168 kv80_) = ((Value.iface 168 kv80_))) (lcons (rfl : (Value.iface 168 (vS (some ⟨b197_, 0, none⟩) ((ints y78_.key).length + 1) ((ints y78_.key).length + 1))) = ((Value.iface 168 (vS (some ⟨b197_, 0, none⟩) ((ints y78_.key).length + 1) ((ints y78_.key).length + 1))))) rfl))) (lcons (rfl : (Value.iface 205 (vA #[])) = ((Value.iface 205 (vA #[])))) rfl))) cb147 (itInsert R258_ (List UInt8) BO b23_ b17_ c1 [(Value.nilIface), (Value.nilIface), (Value.nilIface), (Value.nilIface), (vP none), (vP none), (vP none), (vI .i64 0)] W1 168 168 205 kv80_ (vS (some ⟨b197_, 0, none⟩) ((ints y78_.key).length + 1) ((ints y78_.key).length + 1)) (vA #[]) y78_.lo y78_.hi (((hT1.mono hs259_)).ok) (⟨kv80_, ints y78_.key, rfl, (RS.mono hkv82_ hz_R_R258_), (u8s_ints y78_.key).symm⟩) (⟨_, ints y78_.key ++ [0], rfl, hr264_, by rw [hhi257_, u8s_snoc0]; rfl⟩) (by first | assumption | omega) (hT1.s)) H275_ ?_)
      rintro v265_ p279_ w276_ ⟨W266_, L1267_, L2268_, z269_, rfl, rfl, he270_, he271_, he272_, he273_, he274_⟩ S278_ H277_
      have S280_ := Same.trans S207_ S278_
      have hTn281_ : TI BO R258_ W266_ (pivls (l.take (k + 1)) 0) := by rw [pivls_yes hy79_ (by omega)]; exact TI.ins (hT1.mono hs259_) he270_ he271_ he272_ he273_ he274_
      refine wpList_nil (X_blkN (X_blkN (X_then (hK73_ _ _ ?_))))
      clear hK73_
      refine C_reg ?_
      refine sv (v := (vI .i64 ((k : Int) + 1))) (x_bin rfl rfl (ib_add (IntWalk.i64_in _ (by omega)))) ?_
      refine sv (v := (vI .i64 ((k : Int) + 1))) (x_move rfl) ?_
      refine wpList_nil (X_then ?_)
      have H282_ : Holds w276_ (tr b31_ b31_ W2 :: tr b17_ b17_ W266_ :: ro R258_ :: cl b37_ 188 [(vQ (rt b31_ W2)), (vI .i64 c2), (vQ b31_)] :: clf b31_ 185 [(Value.nilIface), (Value.nilIface), (Value.nilIface), (Value.nilIface), (vP none), (vP none), (vP none), (vI .i64 0)] :: cl b23_ 188 [(vQ (rt b17_ W266_)), (vI .i64 (c1 + 1)), (vQ b17_)] :: clf b17_ 185 [(Value.nilIface), (Value.nilIface), (Value.nilIface), (Value.nilIface), (vP none), (vP none), (vP none), (vI .i64 0)] :: F) := (Holds.pkF H277_ [5, 2, 0, 3, 3, 0, 0] 1 :)
      exact ⟨⟨R258_, k + 1, W266_, W2, c1 + 1, c2⟩, ⟨_, congrArg (fun e => mkA 117 e []) (ch (ch (ch (ch (ch (ch (ch rfl rfl) rfl) rfl) rfl) rfl) rfl) (congrArg (vI .i64) ((by first | rfl | omega | (simp; done) | (simp; omega)) : (k : Int) + 1 = ((k + 1 : Nat) : Int)))), H282_, S280_, (hz_R_R258_), (by first | assumption | omega | exact rfl), (hTn281_), ((by rw [pivls_no hy79_ (by omega)]; exact (hT2.mono hs259_))), (by first | assumption | omega | exact rfl)⟩, by first | omega | (dsimp only; omega) | (simp; omega)⟩
     ·have c256_fp : ¬ (y78_.kind = 0) := of_decide_eq_false c256_f
      refine C_seq (fun K283_ hK283_ => C_reg ?_)
      refine sv (v := (vB (decide (y78_.kind = 1)))) (x_bin rfl rfl rfl) ?_
      refine sv (v := (vB (decide (y78_.kind = 1)))) (x_assign rfl) ?_
      refine wpList_nil (X_then (hK283_ _ _ ?_))
      clear hK283_
      refine C_cond (b := decide (y78_.kind = 1)) rfl (fun c284_t => ?_) (fun c284_f => ?_)
      ·have c284_tp : y78_.kind = 1 := of_decide_eq_true c284_t
       refine C_reg ?_
       refine sv (v := (Value.iface 186 (vQ b37_))) (x_move rfl) ?_
       refine sv (v := (vA #[(Value.iface 168 kv80_), (Value.iface 168 (vS (some ⟨b197_, 0, none⟩) ((ints y78_.key).length + 1) ((ints y78_.key).length + 1)))])) (x_loadN (vs := [(Value.iface 168 kv80_), (Value.iface 168 (vS (some ⟨b197_, 0, none⟩) ((ints y78_.key).length + 1) ((ints y78_.key).length + 1)))]) rfl Try.underlying111 rfl z111 rfl (Rd.cells (Holds.rd H205_ 2 rfl) 0 rfl)) ?_
       refine sv (v := (vA #[])) (by kernel_rfl) ?_
       refine sv (v := (Value.iface 205 (vA #[]))) (by kernel_rfl) ?_
       have hhi285_ : y78_.hi = y78_.lo ++ [0] := PM.hi_pt (by omega)
       obtain ⟨R286_, hs287_, ⟨R288_, ha289_, hs290_⟩, H291_⟩ := Holds.gift H205_
       have hz_R_R286_ := Sub.trans' hsR1 hs287_
       have hr292_ : RS R286_ 1 (vS (some ⟨b197_, 0, none⟩) ((ints y78_.key).length + 1) ((ints y78_.key).length + 1)) (List.length (ints y78_.key ++ [0])) (bytesV (ints y78_.key ++ [0])) := (RS.set_ (cl_RSn (sz := 1) (k := (List.length (ints y78_.key) + 1)) ha289_ (Sub.rfl' _) (by simp [bytesV_len]) (by omega)) rfl (by simp)).mono hs290_
       have H303_ := ((Holds.bring (Holds.bring (Holds.bring (Holds.bring H291_ 5 rfl) 3 rfl) 5 rfl) 3 rfl) :)
       refine S_list (T_invoke (al := [(vQ b37_), (vA #[((Value.iface 168 kv80_)), ((Value.iface 168 (vS (some ⟨b197_, 0, none⟩) ((ints y78_.key).length + 1) ((ints y78_.key).length + 1))))]), ((Value.iface 205 (vA #[])))]) (pre := [cl b37_ 188 [(vQ (rt b31_ W2)), (vI .i64 c2), (vQ b31_)], tr b31_ b31_ W2, clf b31_ 185 [(Value.nilIface), (Value.nilIface), (Value.nilIface), (Value.nilIface), (vP none), (vP none), (vP none), (vI .i64 0)]]) rfl (fun w => by kernel_rfl) (lcons rfl (lcons (congrArg (fun l => vA (List.toArray l)) (lcons (rfl : (Value.iface 168 kv80_) = ((Value.iface 168 kv80_))) (lcons (rfl : (Value.iface 168 (vS (some ⟨b197_, 0, none⟩) ((ints y78_.key).length + 1) ((ints y78_.key).length + 1))) = ((Value.iface 168 (vS (some ⟨b197_, 0, none⟩) ((ints y78_.key).length + 1) ((ints y78_.key).length + 1))))) rfl))) (lcons (rfl : (Value.iface 205 (vA #[])) = ((Value.iface 205 (vA #[])))) rfl))) cb147 (itInsert R286_ (List UInt8) BO b37_ b31_ c2 [(Value.nilIface), (Value.nilIface), (Value.nilIface), (Value.nilIface), (vP none), (vP none), (vP none), (vI .i64 0)] W2 168 168 205 kv80_ (vS (some ⟨b197_, 0, none⟩) ((ints y78_.key).length + 1) ((ints y78_.key).length + 1)) (vA #[]) y78_.lo y78_.hi (((hT2.mono hs287_)).ok) (⟨kv80_, ints y78_.key, rfl, (RS.mono hkv82_ hz_R_R286_), (u8s_ints y78_.key).symm⟩) (⟨_, ints y78_.key ++ [0], rfl, hr292_, by rw [hhi285_, u8s_snoc0]; rfl⟩) (by first | assumption | omega) (hT2.s)) H303_ ?_)
       rintro v293_ p307_ w304_ ⟨W294_, L1295_, L2296_, z297_, rfl, rfl, he298_, he299_, he300_, he301_, he302_⟩ S306_ H305_
       have S308_ := Same.trans S207_ S306_
       have hTn309_ : TI BO R286_ W294_ (pivls (l.take (k + 1)) 1) := by rw [pivls_yes hy79_ (by omega)]; exact TI.ins (hT2.mono hs287_) he298_ he299_ he300_ he301_ he302_
       refine wpList_nil (X_blkN (X_blkN (X_then (hK73_ _ _ ?_))))
       clear hK73_
       refine C_reg ?_
       refine sv (v := (vI .i64 ((k : Int) + 1))) (x_bin rfl rfl (ib_add (IntWalk.i64_in _ (by omega)))) ?_
       refine sv (v := (vI .i64 ((k : Int) + 1))) (x_move rfl) ?_
       refine wpList_nil (X_then ?_)
       have H310_ : Holds w304_ (tr b31_ b31_ W294_ :: tr b17_ b17_ W1 :: ro R286_ :: cl b37_ 188 [(vQ (rt b31_ W294_)), (vI .i64 (c2 + 1)), (vQ b31_)] :: clf b31_ 185 [(Value.nilIface), (Value.nilIface), (Value.nilIface), (Value.nilIface), (vP none), (vP none), (vP none), (vI .i64 0)] :: cl b23_ 188 [(vQ (rt b17_ W1)), (vI .i64 c1), (vQ b17_)] :: clf b17_ 185 [(Value.nilIface), (Value.nilIface), (Value.nilIface), (Value.nilIface), (vP none), (vP none), (vP none), (vI .i64 0)] :: F) := (Holds.pkF H305_ [2, 4, 0, 0, 0, 1, 1] 1 :)
       exact ⟨⟨R286_, k + 1, W1, W294_, c1, c2 + 1⟩, ⟨_, congrArg (fun e => mkA 117 e []) (ch (ch (ch (ch (ch (ch (ch rfl rfl) rfl) rfl) rfl) rfl) rfl) (congrArg (vI .i64) ((by first | rfl | omega | (simp; done) | (simp; omega)) : (k : Int) + 1 = ((k + 1 : Nat) : Int)))), H310_, S308_, (hz_R_R286_), (by first | assumption | omega | exact rfl), ((by rw [pivls_no hy79_ (by omega)]; exact (hT1.mono hs287_))), (hTn309_), (by first | assumption | omega | exact rfl)⟩, by first | omega | (dsimp only; omega) | (simp; omega)⟩
      ·have c284_fp : ¬ (y78_.kind = 1) := of_decide_eq_false c284_f
       refine C_skip (X_blkN (X_blkN (X_then (hK73_ _ _ ?_))))
       clear hK73_
       refine C_reg ?_
       refine sv (v := (vI .i64 ((k : Int) + 1))) (x_bin rfl rfl (ib_add (IntWalk.i64_in _ (by omega)))) ?_
       refine sv (v := (vI .i64 ((k : Int) + 1))) (x_move rfl) ?_
       refine wpList_nil (X_then ?_)
       have H311_ : Holds w204_ (tr b31_ b31_ W2 :: tr b17_ b17_ W1 :: ro R1 :: cl b37_ 188 [(vQ (rt b31_ W2)), (vI .i64 c2), (vQ b31_)] :: clf b31_ 185 [(Value.nilIface), (Value.nilIface), (Value.nilIface), (Value.nilIface), (vP none), (vP none), (vP none), (vI .i64 0)] :: cl b23_ 188 [(vQ (rt b17_ W1)), (vI .i64 c1), (vQ b17_)] :: clf b17_ 185 [(Value.nilIface), (Value.nilIface), (Value.nilIface), (Value.nilIface), (vP none), (vP none), (vP none), (vI .i64 0)] :: F) := (Holds.pkF H205_ [3, 3, 0, 2, 2, 2, 2] 2 :)
       exact ⟨⟨R1, k + 1, W1, W2, c1, c2⟩, ⟨_, congrArg (fun e => mkA 117 e []) (ch (ch (ch (ch (ch (ch (ch rfl rfl) rfl) rfl) rfl) rfl) rfl) (congrArg (vI .i64) ((by first | rfl | omega | (simp; done) | (simp; omega)) : (k : Int) + 1 = ((k + 1 : Nat) : Int)))), H311_, S207_, (hsR1), (by first | assumption | omega | exact rfl), ((by rw [pivls_no hy79_ (by omega)]; exact hT1)), ((by rw [pivls_no hy79_ (by omega)]; exact hT2)), (by first | assumption | omega | exact rfl)⟩, by first | omega | (dsimp only; omega) | (simp; omega)⟩
  ·have c94_fp : ¬ (((List.length (ints y78_.end_)) : Int) ≠ 1) := of_decide_eq_false c94_f
   refine S_yes (j := 6) (dj := 51) (b := false) rfl rfl (congrArg vB c94_f) (T_val (v := (vQ p75_)) (x_move rfl) ?_)
   refine S_yes (j := 6) (dj := 51) (b := false) rfl rfl (congrArg vB c94_f) (T_val (v := (vQ p75_)) (by kernel_rfl) ?_)
   refine S_yes (j := 6) (dj := 51) (b := false) rfl rfl (congrArg vB c94_f) (T_val (v := (vP (some ⟨p75_, 2, none⟩))) (by kernel_rfl) ?_)
   refine S_yes (j := 6) (dj := 51) (b := false) rfl rfl (congrArg vB c94_f) (T_val (v := ev81_) (x_load1 rfl Try.underlying122 rfl (RC.cell (hrc84_.mono hsR1) (Holds.ro_at H88_ 3 rfl) (j := 2) (u := ev81_) (rfl))) ?_)
   obtain ⟨x312_, hx313_, hm314_⟩ := elem_at (ints y78_.end_) 0 (by omega)
   refine S_yes (j := 6) (dj := 51) (b := false) rfl rfl (congrArg vB c94_f) (T_val (v := (vP (some ⟨(sb ev81_), so ev81_ + 0, none⟩))) (x_idxRS (v := ev81_) rfl (RS.mono hev83_ hsR1) rfl Try.underlying122 z5 (by omega) (by omega) (by omega : _ = 0) (by rw [Nat.mul_one])) ?_)
   refine S_yes (j := 6) (dj := 51) (b := false) rfl rfl (congrArg vB c94_f) (T_val (v := (vI .u8 x312_)) (x_load1 rfl Try.underlying5 rfl (RC.cell (RS.rc (RS.mono hev83_ hsR1)) (Holds.ro_at H88_ 3 rfl) (j := 0) (u := (vI .u8 x312_)) ((map_at hx313_)))) ?_)
   refine S_yes (j := 6) (dj := 51) (b := false) rfl rfl (congrArg vB c94_f) (T_val (v := (vB (decide (x312_ ≠ 0)))) (x_bin rfl rfl rfl) ?_)
   refine S_list (T_pickF (v := (vB (decide (x312_ ≠ 0)))) (congrArg vB c94_f) rfl ?_)
   refine wpList_nil (X_then (hK93_ _ _ ?_))
   clear hK93_
   refine C_cond (b := decide (x312_ ≠ 0)) rfl (fun c315_t => ?_) (fun c315_f => ?_)
   ·have c315_tp : x312_ ≠ 0 := of_decide_eq_true c315_t
    refine C_reg ?_
    refine sv (v := (vQ p75_)) (x_move rfl) ?_
    refine sv (v := (vQ p75_)) (by kernel_rfl) ?_
    refine sv (v := (vP (some ⟨p75_, 2, none⟩))) (by kernel_rfl) ?_
    refine sv (v := ev81_) (x_load1 rfl Try.underlying122 rfl (RC.cell (hrc84_.mono hsR1) (Holds.ro_at H88_ 3 rfl) (j := 2) (u := ev81_) (rfl))) ?_
    refine sv (v := ev81_) (x_assign rfl) ?_
    refine wpList_nil (X_then (hK92_ _ _ ?_))
    clear hK92_
    refine C_seq (fun K316_ hK316_ => ?_)
    refine C_seq (fun K317_ hK317_ => C_reg ?_)
    refine sv (v := (vQ p75_)) (x_move rfl) ?_
    refine sv (v := (vQ p75_)) (by kernel_rfl) ?_
    refine sv (v := (vP (some ⟨p75_, 2, none⟩))) (by kernel_rfl) ?_
    refine sv (v := ev81_) (x_load1 rfl Try.underlying122 rfl (RC.cell (hrc84_.mono hsR1) (Holds.ro_at H88_ 3 rfl) (j := 2) (u := ev81_) (rfl))) ?_
    refine sv (v := (vI .i64 ((List.length (ints y78_.end_)) : Int))) (x_lenRS rfl (RS.mono hev83_ hsR1) Try.underlying122) ?_
    refine sv (v := (vB (decide (((List.length (ints y78_.end_)) : Int) ≠ 0)))) (x_bin rfl rfl rfl) ?_
    refine wpList_nil (X_then (hK317_ _ _ ?_))
    clear hK317_
    refine C_cond (b := decide (((List.length (ints y78_.end_)) : Int) ≠ 0)) rfl (fun c318_t => ?_) (fun c318_f => ?_)
    ·have c318_tp : ((List.length (ints y78_.end_)) : Int) ≠ 0 := of_decide_eq_true c318_t
     refine C_reg ?_
     refine sv (v := (vQ p75_)) (x_move rfl) ?_
     refine sv (v := (vQ p75_)) (by kernel_rfl) ?_
     refine sv (v := (vP (some ⟨p75_, 1, none⟩))) (by kernel_rfl) ?_
     refine sv (v := kv80_) (x_load1 rfl Try.underlying122 rfl (RC.cell (hrc84_.mono hsR1) (Holds.ro_at H88_ 3 rfl) (j := 1) (u := kv80_) (rfl))) ?_
     refine sv (v := ev81_) (x_move rfl) ?_
     refine S_list (T_callW (al := [kv80_, ev81_]) rfl rfl cb101 (Calls.into (n := 10) (al := [kv80_, ev81_]) Try.func101 rfl Try.ntmps101 rfl rfl ?_))
     refine C_seq (fun K319_ hK319_ => C_reg ?_)
     refine S_list (T_alloc z111 H88_ ?_)
     intro b320_ w321_ S323_ H322_
     have S324_ := Same.trans S90_ S323_
     refine wpList_nil (X_then (hK319_ _ _ ?_))
     clear hK319_
     refine C_seq (fun K325_ hK325_ => C_reg ?_)
     refine sv (v := kv80_) (x_move rfl) ?_
     refine sv (v := (Value.iface 168 kv80_)) (by kernel_rfl) ?_
     refine sv (v := ev81_) (x_move rfl) ?_
     refine sv (v := (Value.iface 168 ev81_)) (by kernel_rfl) ?_
     refine sv (v := (vA #[(Value.iface 168 kv80_), (Value.iface 168 ev81_)])) (by kernel_rfl) ?_
     refine S_list0 (T_storeN (vs := [(Value.iface 168 kv80_), (Value.iface 168 ev81_)]) rfl rfl z111 rfl (by simp [Value.oneCell']) H322_ 0 rfl (Nat.le_of_ble_eq_true (by rfl)) ?_)
     intro w326_ S328_ H327_
     have S329_ := Same.trans S324_ S328_
     refine wpList_nil (X_then (hK325_ _ _ ?_))
     clear hK325_
     refine C_ret ?_
     refine R_any (v := (vA #[(Value.iface 168 kv80_), (Value.iface 168 ev81_)])) (run_results1 rfl ⟨_, rfl, load_resN Try.underlying111 rfl z111 rfl (vs := [(Value.iface 168 kv80_), (Value.iface 168 ev81_)]) (Holds.cl_cells H327_ 0 rfl 0 rfl)⟩) ⟨_, rfl, ?_⟩
     refine S_list0 (T_storeN (vs := [(Value.iface 168 kv80_), (Value.iface 168 ev81_)]) rfl rfl z111 rfl (by simp [Value.oneCell']) H327_ 1 rfl (Nat.le_of_ble_eq_true (by rfl)) ?_)
     intro w330_ S332_ H331_
     have S333_ := Same.trans S329_ S332_
     refine wpList_nil (X_then (hK316_ _ _ ?_))
     clear hK316_
     refine C_seq (fun K334_ hK334_ => C_reg ?_)
     refine sv (v := (vQ p75_)) (x_move rfl) ?_
     refine sv (v := (vQ p75_)) (by kernel_rfl) ?_
     refine sv (v := (vQ p75_)) (by kernel_rfl) ?_
     refine sv (v := (vI .i32 y78_.kind)) (x_load1 rfl Try.underlying123 rfl (RC.cell (hrc84_.mono hsR1) (Holds.ro_at H331_ 4 rfl) (j := 0) (u := (vI .i32 y78_.kind)) (rfl))) ?_
     refine wpList_nil (X_then (hK334_ _ _ ?_))
     clear hK334_
     refine C_block ?_
     refine C_seq (fun K335_ hK335_ => C_reg ?_)
     refine sv (v := (vB (decide (y78_.kind = 2)))) (x_bin rfl rfl rfl) ?_
     refine sv (v := (vB (decide (y78_.kind = 2)))) (x_assign rfl) ?_
     refine wpList_nil (X_then (hK335_ _ _ ?_))
     clear hK335_
     refine C_cond (b := decide (y78_.kind = 2)) rfl (fun c336_t => ?_) (fun c336_f => ?_)
     ·have c336_tp : y78_.kind = 2 := of_decide_eq_true c336_t
      refine C_seq (fun K337_ hK337_ => C_reg ?_)
      refine sv (v := (Value.iface 186 (vQ b23_))) (x_move rfl) ?_
      refine sv (v := (vA #[(Value.iface 168 kv80_), (Value.iface 168 ev81_)])) (x_loadN (vs := [(Value.iface 168 kv80_), (Value.iface 168 ev81_)]) rfl Try.underlying111 rfl z111 rfl (Rd.cells (Holds.rd H331_ 1 rfl) 0 rfl)) ?_
      refine sv (v := (vA #[])) (by kernel_rfl) ?_
      refine sv (v := (Value.iface 205 (vA #[]))) (by kernel_rfl) ?_
      have hhi338_ : y78_.hi = y78_.end_.data.toList := PM.hi_end (by omega) (by first | exact bytes_len (by omega) | exact bytes_not hx313_ (by omega))
      have H349_ := ((Holds.bring (Holds.bring (Holds.bring (Holds.bring H331_ 8 rfl) 4 rfl) 8 rfl) 6 rfl) :)
      refine S_list (T_invoke (al := [(vQ b23_), (vA #[((Value.iface 168 kv80_)), ((Value.iface 168 ev81_))]), ((Value.iface 205 (vA #[])))]) (pre := [cl b23_ 188 [(vQ (rt b17_ W1)), (vI .i64 c1), (vQ b17_)], tr b17_ b17_ W1, clf b17_ 185 [(Value.nilIface), (Value.nilIface), (Value.nilIface), (Value.nilIface), (vP none), (vP none), (vP none), (vI .i64 0)]]) rfl (fun w => by kernel_rfl) (lcons rfl (lcons (congrArg (fun l => vA (List.toArray l)) (lcons (rfl : (Value.iface 168 kv80_) = ((Value.iface 168 kv80_))) (lcons (rfl : (Value.iface 168 ev81_) = ((Value.iface 168 ev81_))) rfl))) (lcons (rfl : (Value.iface 205 (vA #[])) = ((Value.iface 205 (vA #[])))) rfl))) cb147 (itInsert R1 (List UInt8) BO b23_ b17_ c1 [(Value.nilIface), (Value.nilIface), (Value.nilIface), (Value.nilIface), (vP none), (vP none), (vP none), (vI .i64 0)] W1 168 168 205 kv80_ ev81_ (vA #[]) y78_.lo y78_.hi ((hT1).ok) (⟨kv80_, ints y78_.key, rfl, (RS.mono hkv82_ hsR1), (u8s_ints y78_.key).symm⟩) (⟨ev81_, ints y78_.end_, rfl, (RS.mono hev83_ hsR1), hhi338_.trans (u8s_ints y78_.end_).symm⟩) (by first | assumption | omega) (hT1.s)) H349_ ?_)
      rintro v339_ p353_ w350_ ⟨W340_, L1341_, L2342_, z343_, rfl, rfl, he344_, he345_, he346_, he347_, he348_⟩ S352_ H351_
      have S354_ := Same.trans S333_ S352_
      have hTn355_ : TI BO R1 W340_ (pivls (l.take (k + 1)) 0) := by rw [pivls_yes hy79_ (by omega)]; exact TI.ins hT1 he344_ he345_ he346_ he347_ he348_
      refine wpList_nil (X_then (hK337_ _ _ ?_))
      clear hK337_
      refine C_reg ?_
      refine sv (v := (Value.iface 186 (vQ b37_))) (x_move rfl) ?_
      refine sv (v := (vA #[(Value.iface 168 kv80_), (Value.iface 168 ev81_)])) (x_loadN (vs := [(Value.iface 168 kv80_), (Value.iface 168 ev81_)]) rfl Try.underlying111 rfl z111 rfl (Rd.cells (Holds.rd H351_ 5 rfl) 0 rfl)) ?_
      refine sv (v := (vA #[])) (by kernel_rfl) ?_
      refine sv (v := (Value.iface 205 (vA #[]))) (by kernel_rfl) ?_
      have H366_ := ((Holds.bring (Holds.bring (Holds.bring (Holds.bring H351_ 8 rfl) 7 rfl) 8 rfl) 3 rfl) :)
      refine S_list (T_invoke (al := [(vQ b37_), (vA #[((Value.iface 168 kv80_)), ((Value.iface 168 ev81_))]), ((Value.iface 205 (vA #[])))]) (pre := [cl b37_ 188 [(vQ (rt b31_ W2)), (vI .i64 c2), (vQ b31_)], tr b31_ b31_ W2, clf b31_ 185 [(Value.nilIface), (Value.nilIface), (Value.nilIface), (Value.nilIface), (vP none), (vP none), (vP none), (vI .i64 0)]]) rfl (fun w => by kernel_rfl) (lcons rfl (lcons (congrArg (fun l => vA (List.toArray l)) (lcons (rfl : (Value.iface 168 kv80_) = ((Value.iface 168 kv80_))) (lcons (rfl : (Value.iface 168 ev81_) = ((Value.iface 168 ev81_))) rfl))) (lcons (rfl : (Value.iface 205 (vA #[])) = ((Value.iface 205 (vA #[])))) rfl))) cb147 (itInsert R1 (List UInt8) BO b37_ b31_ c2 [(Value.nilIface), (Value.nilIface), (Value.nilIface), (Value.nilIface), (vP none), (vP none), (vP none), (vI .i64 0)] W2 168 168 205 kv80_ ev81_ (vA #[]) y78_.lo y78_.hi ((hT2).ok) (⟨kv80_, ints y78_.key, rfl, (RS.mono hkv82_ hsR1), (u8s_ints y78_.key).symm⟩) (⟨ev81_, ints y78_.end_, rfl, (RS.mono hev83_ hsR1), hhi338_.trans (u8s_ints y78_.end_).symm⟩) (by first | assumption | omega) (hT2.s)) H366_ ?_)
      rintro v356_ p370_ w367_ ⟨W357_, L1358_, L2359_, z360_, rfl, rfl, he361_, he362_, he363_, he364_, he365_⟩ S369_ H368_
      have S371_ := Same.trans S354_ S369_
      have hTn372_ : TI BO R1 W357_ (pivls (l.take (k + 1)) 1) := by rw [pivls_yes hy79_ (by omega)]; exact TI.ins hT2 he361_ he362_ he363_ he364_ he365_
      refine wpList_nil (X_blkN (X_blkN (X_then (hK73_ _ _ ?_))))
      clear hK73_
      refine C_reg ?_
      refine sv (v := (vI .i64 ((k : Int) + 1))) (x_bin rfl rfl (ib_add (IntWalk.i64_in _ (by omega)))) ?_
      refine sv (v := (vI .i64 ((k : Int) + 1))) (x_move rfl) ?_
      refine wpList_nil (X_then ?_)
      have H373_ : Holds w367_ (tr b31_ b31_ W357_ :: tr b17_ b17_ W340_ :: ro R1 :: cl b37_ 188 [(vQ (rt b31_ W357_)), (vI .i64 (c2 + 1)), (vQ b31_)] :: clf b31_ 185 [(Value.nilIface), (Value.nilIface), (Value.nilIface), (Value.nilIface), (vP none), (vP none), (vP none), (vI .i64 0)] :: cl b23_ 188 [(vQ (rt b17_ W340_)), (vI .i64 (c1 + 1)), (vQ b17_)] :: clf b17_ 185 [(Value.nilIface), (Value.nilIface), (Value.nilIface), (Value.nilIface), (vP none), (vP none), (vP none), (vI .i64 0)] :: F) := (Holds.pkF H368_ [2, 4, 0, 0, 0, 0, 0] 2 :)
      exact ⟨⟨R1, k + 1, W340_, W357_, c1 + 1, c2 + 1⟩, ⟨_, congrArg (fun e => mkA 117 e []) (ch (ch (ch (ch (ch (ch (ch rfl rfl) rfl) rfl) rfl) rfl) rfl) (congrArg (vI .i64) ((by first | rfl | omega | (simp; done) | (simp; omega)) : (k : Int) + 1 = ((k + 1 : Nat) : Int)))), H373_, S371_, (hsR1), (by first | assumption | omega | exact rfl), (hTn355_), (hTn372_), (by first | assumption | omega | exact rfl)⟩, by first | omega | (dsimp only; omega) | (simp; omega)⟩
     ·have c336_fp : ¬ (y78_.kind = 2) := of_decide_eq_false c336_f
      refine C_seq (fun K374_ hK374_ => C_reg ?_)
      refine sv (v := (vB (decide (y78_.kind = 0)))) (x_bin rfl rfl rfl) ?_
      refine sv (v := (vB (decide (y78_.kind = 0)))) (x_assign rfl) ?_
      refine wpList_nil (X_then (hK374_ _ _ ?_))
      clear hK374_
      refine C_cond (b := decide (y78_.kind = 0)) rfl (fun c375_t => ?_) (fun c375_f => ?_)
      ·have c375_tp : y78_.kind = 0 := of_decide_eq_true c375_t
       refine C_reg ?_
       refine sv (v := (Value.iface 186 (vQ b23_))) (x_move rfl) ?_
       refine sv (v := (vA #[(Value.iface 168 kv80_), (Value.iface 168 ev81_)])) (x_loadN (vs := [(Value.iface 168 kv80_), (Value.iface 168 ev81_)]) rfl Try.underlying111 rfl z111 rfl (Rd.cells (Holds.rd H331_ 1 rfl) 0 rfl)) ?_
       refine sv (v := (vA #[])) (by kernel_rfl) ?_
       refine sv (v := (Value.iface 205 (vA #[]))) (by kernel_rfl) ?_
       have hhi376_ : y78_.hi = y78_.end_.data.toList := PM.hi_end (by omega) (by first | exact bytes_len (by omega) | exact bytes_not hx313_ (by omega))
       have H387_ := ((Holds.bring (Holds.bring (Holds.bring (Holds.bring H331_ 8 rfl) 4 rfl) 8 rfl) 6 rfl) :)
       refine S_list (T_invoke (al := [(vQ b23_), (vA #[((Value.iface 168 kv80_)), ((Value.iface 168 ev81_))]), ((Value.iface 205 (vA #[])))]) (pre := [cl b23_ 188 [(vQ (rt b17_ W1)), (vI .i64 c1), (vQ b17_)], tr b17_ b17_ W1, clf b17_ 185 [(Value.nilIface), (Value.nilIface), (Value.nilIface), (Value.nilIface), (vP none), (vP none), (vP none), (vI .i64 0)]]) rfl (fun w => by kernel_rfl) (lcons rfl (lcons (congrArg (fun l => vA (List.toArray l)) (lcons (rfl : (Value.iface 168 kv80_) = ((Value.iface 168 kv80_))) (lcons (rfl : (Value.iface 168 ev81_) = ((Value.iface 168 ev81_))) rfl))) (lcons (rfl : (Value.iface 205 (vA #[])) = ((Value.iface 205 (vA #[])))) rfl))) cb147 (itInsert R1 (List UInt8) BO b23_ b17_ c1 [(Value.nilIface), (Value.nilIface), (Value.nilIface), (Value.nilIface), (vP none), (vP none), (vP none), (vI .i64 0)] W1 168 168 205 kv80_ ev81_ (vA #[]) y78_.lo y78_.hi ((hT1).ok) (⟨kv80_, ints y78_.key, rfl, (RS.mono hkv82_ hsR1), (u8s_ints y78_.key).symm⟩) (⟨ev81_, ints y78_.end_, rfl, (RS.mono hev83_ hsR1), hhi376_.trans (u8s_ints y78_.end_).symm⟩) (by first | assumption | omega) (hT1.s)) H387_ ?_)
       rintro v377_ p391_ w388_ ⟨W378_, L1379_, L2380_, z381_, rfl, rfl, he382_, he383_, he384_, he385_, he386_⟩ S390_ H389_
       have S392_ := Same.trans S333_ S390_
       have hTn393_ : TI BO R1 W378_ (pivls (l.take (k + 1)) 0) := by rw [pivls_yes hy79_ (by omega)]; exact TI.ins hT1 he382_ he383_ he384_ he385_ he386_
       refine wpList_nil (X_blkN (X_blkN (X_then (hK73_ _ _ ?_))))
       clear hK73_
       refine C_reg ?_
       refine sv (v := (vI .i64 ((k : Int) + 1))) (x_bin rfl rfl (ib_add (IntWalk.i64_in _ (by omega)))) ?_
       refine sv (v := (vI .i64 ((k : Int) + 1))) (x_move rfl) ?_
       refine wpList_nil (X_then ?_)
       have H394_ : Holds w388_ (tr b31_ b31_ W2 :: tr b17_ b17_ W378_ :: ro R1 :: cl b37_ 188 [(vQ (rt b31_ W2)), (vI .i64 c2), (vQ b31_)] :: clf b31_ 185 [(Value.nilIface), (Value.nilIface), (Value.nilIface), (Value.nilIface), (vP none), (vP none), (vP none), (vI .i64 0)] :: cl b23_ 188 [(vQ (rt b17_ W378_)), (vI .i64 (c1 + 1)), (vQ b17_)] :: clf b17_ 185 [(Value.nilIface), (Value.nilIface), (Value.nilIface), (Value.nilIface), (vP none), (vP none), (vP none), (vI .i64 0)] :: F) := (Holds.pkF H389_ [6, 2, 0, 4, 4, 0, 0] 2 :)
       exact ⟨⟨R1, k + 1, W378_, W2, c1 + 1, c2⟩, ⟨_, congrArg (fun e => mkA 117 e []) (ch (ch (ch (ch (ch (ch (ch rfl rfl) rfl) rfl) rfl) rfl) rfl) (congrArg (vI .i64) ((by first | rfl | omega | (simp; done) | (simp; omega)) : (k : Int) + 1 = ((k + 1 : Nat) : Int)))), H394_, S392_, (hsR1), (by first | assumption | omega | exact rfl), (hTn393_), ((by rw [pivls_no hy79_ (by omega)]; exact hT2)), (by first | assumption | omega | exact rfl)⟩, by first | omega | (dsimp only; omega) | (simp; omega)⟩
      ·have c375_fp : ¬ (y78_.kind = 0) := of_decide_eq_false c375_f
       refine C_seq (fun K395_ hK395_ => C_reg ?_)
       refine sv (v := (vB (decide (y78_.kind = 1)))) (x_bin rfl rfl rfl) ?_
       refine sv (v := (vB (decide (y78_.kind = 1)))) (x_assign rfl) ?_
       refine wpList_nil (X_then (hK395_ _ _ ?_))
       clear hK395_
       refine C_cond (b := decide (y78_.kind = 1)) rfl (fun c396_t => ?_) (fun c396_f => ?_)
       ·have c396_tp : y78_.kind = 1 := of_decide_eq_true c396_t
        refine C_reg ?_
        refine sv (v := (Value.iface 186 (vQ b37_))) (x_move rfl) ?_
        refine sv (v := (vA #[(Value.iface 168 kv80_), (Value.iface 168 ev81_)])) (x_loadN (vs := [(Value.iface 168 kv80_), (Value.iface 168 ev81_)]) rfl Try.underlying111 rfl z111 rfl (Rd.cells (Holds.rd H331_ 1 rfl) 0 rfl)) ?_
        refine sv (v := (vA #[])) (by kernel_rfl) ?_
        refine sv (v := (Value.iface 205 (vA #[]))) (by kernel_rfl) ?_
        have hhi397_ : y78_.hi = y78_.end_.data.toList := PM.hi_end (by omega) (by first | exact bytes_len (by omega) | exact bytes_not hx313_ (by omega))
        have H408_ := ((Holds.bring (Holds.bring (Holds.bring (Holds.bring H331_ 6 rfl) 3 rfl) 6 rfl) 6 rfl) :)
        refine S_list (T_invoke (al := [(vQ b37_), (vA #[((Value.iface 168 kv80_)), ((Value.iface 168 ev81_))]), ((Value.iface 205 (vA #[])))]) (pre := [cl b37_ 188 [(vQ (rt b31_ W2)), (vI .i64 c2), (vQ b31_)], tr b31_ b31_ W2, clf b31_ 185 [(Value.nilIface), (Value.nilIface), (Value.nilIface), (Value.nilIface), (vP none), (vP none), (vP none), (vI .i64 0)]]) rfl (fun w => by kernel_rfl) (lcons rfl (lcons (congrArg (fun l => vA (List.toArray l)) (lcons (rfl : (Value.iface 168 kv80_) = ((Value.iface 168 kv80_))) (lcons (rfl : (Value.iface 168 ev81_) = ((Value.iface 168 ev81_))) rfl))) (lcons (rfl : (Value.iface 205 (vA #[])) = ((Value.iface 205 (vA #[])))) rfl))) cb147 (itInsert R1 (List UInt8) BO b37_ b31_ c2 [(Value.nilIface), (Value.nilIface), (Value.nilIface), (Value.nilIface), (vP none), (vP none), (vP none), (vI .i64 0)] W2 168 168 205 kv80_ ev81_ (vA #[]) y78_.lo y78_.hi ((hT2).ok) (⟨kv80_, ints y78_.key, rfl, (RS.mono hkv82_ hsR1), (u8s_ints y78_.key).symm⟩) (⟨ev81_, ints y78_.end_, rfl, (RS.mono hev83_ hsR1), hhi397_.trans (u8s_ints y78_.end_).symm⟩) (by first | assumption | omega) (hT2.s)) H408_ ?_)
        rintro v398_ p412_ w409_ ⟨W399_, L1400_, L2401_, z402_, rfl, rfl, he403_, he404_, he405_, he406_, he407_⟩ S411_ H410_
        have S413_ := Same.trans S333_ S411_
        have hTn414_ : TI BO R1 W399_ (pivls (l.take (k + 1)) 1) := by rw [pivls_yes hy79_ (by omega)]; exact TI.ins hT2 he403_ he404_ he405_ he406_ he407_
        refine wpList_nil (X_blkN (X_blkN (X_then (hK73_ _ _ ?_))))
        clear hK73_
        refine C_reg ?_
        refine sv (v := (vI .i64 ((k : Int) + 1))) (x_bin rfl rfl (ib_add (IntWalk.i64_in _ (by omega)))) ?_
        refine sv (v := (vI .i64 ((k : Int) + 1))) (x_move rfl) ?_
        refine wpList_nil (X_then ?_)
        have H415_ : Holds w409_ (tr b31_ b31_ W399_ :: tr b17_ b17_ W1 :: ro R1 :: cl b37_ 188 [(vQ (rt b31_ W399_)), (vI .i64 (c2 + 1)), (vQ b31_)] :: clf b31_ 185 [(Value.nilIface), (Value.nilIface), (Value.nilIface), (Value.nilIface), (vP none), (vP none), (vP none), (vI .i64 0)] :: cl b23_ 188 [(vQ (rt b17_ W1)), (vI .i64 c1), (vQ b17_)] :: clf b17_ 185 [(Value.nilIface), (Value.nilIface), (Value.nilIface), (Value.nilIface), (vP none), (vP none), (vP none), (vI .i64 0)] :: F) := (Holds.pkF H410_ [2, 5, 0, 0, 0, 2, 2] 2 :)
        exact ⟨⟨R1, k + 1, W1, W399_, c1, c2 + 1⟩, ⟨_, congrArg (fun e => mkA 117 e []) (ch (ch (ch (ch (ch (ch (ch rfl rfl) rfl) rfl) rfl) rfl) rfl) (congrArg (vI .i64) ((by first | rfl | omega | (simp; done) | (simp; omega)) : (k : Int) + 1 = ((k + 1 : Nat) : Int)))), H415_, S413_, (hsR1), (by first | assumption | omega | exact rfl), ((by rw [pivls_no hy79_ (by omega)]; exact hT1)), (hTn414_), (by first | assumption | omega | exact rfl)⟩, by first | omega | (dsimp only; omega) | (simp; omega)⟩
       ·have c396_fp : ¬ (y78_.kind = 1) := of_decide_eq_false c396_f
        refine C_skip (X_blkN (X_blkN (X_then (hK73_ _ _ ?_))))
        clear hK73_
        refine C_reg ?_
        refine sv (v := (vI .i64 ((k : Int) + 1))) (x_bin rfl rfl (ib_add (IntWalk.i64_in _ (by omega)))) ?_
        refine sv (v := (vI .i64 ((k : Int) + 1))) (x_move rfl) ?_
        refine wpList_nil (X_then ?_)
        have H416_ : Holds w330_ (tr b31_ b31_ W2 :: tr b17_ b17_ W1 :: ro R1 :: cl b37_ 188 [(vQ (rt b31_ W2)), (vI .i64 c2), (vQ b31_)] :: clf b31_ 185 [(Value.nilIface), (Value.nilIface), (Value.nilIface), (Value.nilIface), (vP none), (vP none), (vP none), (vI .i64 0)] :: cl b23_ 188 [(vQ (rt b17_ W1)), (vI .i64 c1), (vQ b17_)] :: clf b17_ 185 [(Value.nilIface), (Value.nilIface), (Value.nilIface), (Value.nilIface), (vP none), (vP none), (vP none), (vI .i64 0)] :: F) := (Holds.pkF H331_ [2, 2, 2, 2, 2, 2, 2] 2 :)
        exact ⟨⟨R1, k + 1, W1, W2, c1, c2⟩, ⟨_, congrArg (fun e => mkA 117 e []) (ch (ch (ch (ch (ch (ch (ch rfl rfl) rfl) rfl) rfl) rfl) rfl) (congrArg (vI .i64) ((by first | rfl | omega | (simp; done) | (simp; omega)) : (k : Int) + 1 = ((k + 1 : Nat) : Int)))), H416_, S333_, (hsR1), (by first | assumption | omega | exact rfl), ((by rw [pivls_no hy79_ (by omega)]; exact hT1)), ((by rw [pivls_no hy79_ (by omega)]; exact hT2)), (by first | assumption | omega | exact rfl)⟩, by first | omega | (dsimp only; omega) | (simp; omega)⟩
    ·have c318_fp : ¬ (((List.length (ints y78_.end_)) : Int) ≠ 0) := of_decide_eq_false c318_f
     refine C_reg ?_
     refine sv (v := (vQ p75_)) (x_move rfl) ?_
     refine sv (v := (vQ p75_)) (by kernel_rfl) ?_
     refine sv (v := (vP (some ⟨p75_, 1, none⟩))) (by kernel_rfl) ?_
     refine sv (v := kv80_) (x_load1 rfl Try.underlying122 rfl (RC.cell (hrc84_.mono hsR1) (Holds.ro_at H88_ 3 rfl) (j := 1) (u := kv80_) (rfl))) ?_
     have H419_ := ((Holds.bring H88_ 3 rfl) :)
     refine S_list (T_call (al := [kv80_]) (pre := []) rfl rfl cb102 (bPoint R1 kv80_ (ints y78_.key) (RS.mono hkv82_ hsR1) (by first | assumption | omega)) H419_ ?_)
     rintro v417_ p423_ w420_ ⟨b418_, rfl, rfl⟩ S422_ H421_
     have S424_ := Same.trans S90_ S422_
     refine S_list0 (T_storeN (vs := [(Value.iface 168 kv80_), (Value.iface 168 (vS (some ⟨b418_, 0, none⟩) ((ints y78_.key).length + 1) ((ints y78_.key).length + 1)))]) rfl rfl z111 rfl (by simp [Value.oneCell']) H421_ 2 rfl (Nat.le_of_ble_eq_true (by rfl)) ?_)
     intro w425_ S427_ H426_
     have S428_ := Same.trans S424_ S427_
     refine wpList_nil (X_then (hK316_ _ _ ?_))
     clear hK316_
     refine C_seq (fun K429_ hK429_ => C_reg ?_)
     refine sv (v := (vQ p75_)) (x_move rfl) ?_
     refine sv (v := (vQ p75_)) (by kernel_rfl) ?_
     refine sv (v := (vQ p75_)) (by kernel_rfl) ?_
     refine sv (v := (vI .i32 y78_.kind)) (x_load1 rfl Try.underlying123 rfl (RC.cell (hrc84_.mono hsR1) (Holds.ro_at H426_ 0 rfl) (j := 0) (u := (vI .i32 y78_.kind)) (rfl))) ?_
     refine wpList_nil (X_then (hK429_ _ _ ?_))
     clear hK429_
     refine C_block ?_
     refine C_seq (fun K430_ hK430_ => C_reg ?_)
     refine sv (v := (vB (decide (y78_.kind = 2)))) (x_bin rfl rfl rfl) ?_
     refine sv (v := (vB (decide (y78_.kind = 2)))) (x_assign rfl) ?_
     refine wpList_nil (X_then (hK430_ _ _ ?_))
     clear hK430_
     refine C_cond (b := decide (y78_.kind = 2)) rfl (fun c431_t => ?_) (fun c431_f => ?_)
     ·have c431_tp : y78_.kind = 2 := of_decide_eq_true c431_t
      refine C_seq (fun K432_ hK432_ => C_reg ?_)
      refine sv (v := (Value.iface 186 (vQ b23_))) (x_move rfl) ?_
      refine sv (v := (vA #[(Value.iface 168 kv80_), (Value.iface 168 (vS (some ⟨b418_, 0, none⟩) ((ints y78_.key).length + 1) ((ints y78_.key).length + 1)))])) (x_loadN (vs := [(Value.iface 168 kv80_), (Value.iface 168 (vS (some ⟨b418_, 0, none⟩) ((ints y78_.key).length + 1) ((ints y78_.key).length + 1)))]) rfl Try.underlying111 rfl z111 rfl (Rd.cells (Holds.rd H426_ 2 rfl) 0 rfl)) ?_
      refine sv (v := (vA #[])) (by kernel_rfl) ?_
      refine sv (v := (Value.iface 205 (vA #[]))) (by kernel_rfl) ?_
      have hhi433_ : y78_.hi = y78_.lo ++ [0] := PM.hi_pt (by omega)
      obtain ⟨R434_, hs435_, ⟨R436_, ha437_, hs438_⟩, H439_⟩ := Holds.gift H426_
      have hz_R_R434_ := Sub.trans' hsR1 hs435_
      have hr440_ : RS R434_ 1 (vS (some ⟨b418_, 0, none⟩) ((ints y78_.key).length + 1) ((ints y78_.key).length + 1)) (List.length (ints y78_.key ++ [0])) (bytesV (ints y78_.key ++ [0])) := (RS.set_ (cl_RSn (sz := 1) (k := (List.length (ints y78_.key) + 1)) ha437_ (Sub.rfl' _) (by simp [bytesV_len]) (by omega)) rfl (by simp)).mono hs438_
      have H451_ := ((Holds.bring (Holds.bring (Holds.bring (Holds.bring H439_ 7 rfl) 4 rfl) 7 rfl) 3 rfl) :)
      refine S_list (T_invoke (al := [(vQ b23_), (vA #[((Value.iface 168 kv80_)), ((Value.iface 168 (vS (some ⟨b418_, 0, none⟩) ((ints y78_.key).length + 1) ((ints y78_.key).length + 1))))]), ((Value.iface 205 (vA #[])))]) (pre := [cl b23_ 188 [(vQ (rt b17_ W1)), (vI .i64 c1), (vQ b17_)], tr b17_ b17_ W1, clf b17_ 185 [(Value.nilIface), (Value.nilIface), (Value.nilIface), (Value.nilIface), (vP none), (vP none), (vP none), (vI .i64 0)]]) rfl (fun w => by kernel_rfl) (lcons rfl (lcons (congrArg (fun l => vA (List.toArray l)) (lcons (rfl : (Value.iface 168 kv80_) = ((Value.iface 168 kv80_))) (lcons (rfl : (Value.iface 168 (vS (some ⟨b418_, 0, none⟩) ((ints y78_.key).length + 1) ((ints y78_.key).length + 1))) = ((Value.iface 168 (vS (some ⟨b418_, 0, none⟩) ((ints y78_.key).length + 1) ((ints y78_.key).length + 1))))) rfl))) (lcons (rfl : (Value.iface 205 (vA #[])) = ((Value.iface 205 (vA #[])))) rfl))) cb147 (itInsert R434_ (List UInt8) BO b23_ b17_ c1 [(Value.nilIface), (Value.nilIface), (Value.nilIface), (Value.nilIface), (vP none), (vP none), (vP none), (vI .i64 0)] W1 168 168 205 kv80_ (vS (some ⟨b418_, 0, none⟩) ((ints y78_.key).length + 1) ((ints y78_.key).length + 1)) (vA #[]) y78_.lo y78_.hi (((hT1.mono hs435_)).ok) (⟨kv80_, ints y78_.key, rfl, (RS.mono hkv82_ hz_R_R434_), (u8s_ints y78_.key).symm⟩) (⟨_, ints y78_.key ++ [0], rfl, hr440_, by rw [hhi433_, u8s_snoc0]; rfl⟩) (by first | assumption | omega) (hT1.s)) H451_ ?_)
      rintro v441_ p455_ w452_ ⟨W442_, L1443_, L2444_, z445_, rfl, rfl, he446_, he447_, he448_, he449_, he450_⟩ S454_ H453_
      have S456_ := Same.trans S428_ S454_
      have hTn457_ : TI BO R434_ W442_ (pivls (l.take (k + 1)) 0) := by rw [pivls_yes hy79_ (by omega)]; exact TI.ins (hT1.mono hs435_) he446_ he447_ he448_ he449_ he450_
      refine wpList_nil (X_then (hK432_ _ _ ?_))
      clear hK432_
      refine C_reg ?_
      refine sv (v := (Value.iface 186 (vQ b37_))) (x_move rfl) ?_
      refine sv (v := (vA #[(Value.iface 168 kv80_), (Value.iface 168 (vS (some ⟨b418_, 0, none⟩) ((ints y78_.key).length + 1) ((ints y78_.key).length + 1)))])) (x_loadN (vs := [(Value.iface 168 kv80_), (Value.iface 168 (vS (some ⟨b418_, 0, none⟩) ((ints y78_.key).length + 1) ((ints y78_.key).length + 1)))]) rfl Try.underlying111 rfl z111 rfl (Rd.cells (Holds.rd H453_ 4 rfl) 0 rfl)) ?_
      refine sv (v := (vA #[])) (by kernel_rfl) ?_
      refine sv (v := (Value.iface 205 (vA #[]))) (by kernel_rfl) ?_
      have H468_ := ((Holds.bring (Holds.bring (Holds.bring (Holds.bring H453_ 7 rfl) 6 rfl) 7 rfl) 3 rfl) :)
      refine S_list (T_invoke (al := [(vQ b37_), (vA #[((Value.iface 168 kv80_)), ((Value.iface 168 (vS (some ⟨b418_, 0, none⟩) ((ints y78_.key).length + 1) ((ints y78_.key).length + 1))))]), ((Value.iface 205 (vA #[])))]) (pre := [cl b37_ 188 [(vQ (rt b31_ W2)), (vI .i64 c2), (vQ b31_)], tr b31_ b31_ W2, clf b31_ 185 [(Value.nilIface), (Value.nilIface), (Value.nilIface), (Value.nilIface), (vP none), (vP none), (vP none), (vI .i64 0)]]) rfl (fun w => by kernel_rfl) (lcons rfl (lcons (congrArg (fun l => vA (List.toArray l)) (lcons (rfl : (Value.iface 168 kv80_) = ((Value.iface 168 kv80_))) (lcons (rfl : (Value.iface 168 (vS (some ⟨b418_, 0, none⟩) ((ints y78_.key).length + 1) ((ints y78_.key).length + 1))) = ((Value.iface 168 (vS (some ⟨b418_, 0, none⟩) ((ints y78_.key).length + 1) ((ints y78_.key).length + 1))))) rfl))) (lcons (rfl : (Value.iface 205 (vA #[])) = ((Value.iface 205 (vA #[])))) rfl))) cb147 (itInsert R434_ (List UInt8) BO b37_ b31_ c2 [(Value.nilIface), (Value.nilIface), (Value.nilIface), (Value.nilIface), (vP none), (vP none), (vP none), (vI .i64 0)] W2 168 168 205 kv80_ (vS (some ⟨b418_, 0, none⟩) ((ints y78_.key).length + 1) ((ints y78_.key).length + 1)) (vA #[]) y78_.lo y78_.hi (((hT2.mono hs435_)).ok) (⟨kv80_, ints y78_.key, rfl, (RS.mono hkv82_ hz_R_R434_), (u8s_ints y78_.key).symm⟩) (⟨_, ints y78_.key ++ [0], rfl, hr440_, by rw [hhi433_, u8s_snoc0]; rfl⟩) (by first | assumption | omega) (hT2.s)) H468_ ?_)
      rintro v458_ p472_ w469_ ⟨W459_, L1460_, L2461_, z462_, rfl, rfl, he463_, he464_, he465_, he466_, he467_⟩ S471_ H470_
      have S473_ := Same.trans S456_ S471_
      have hTn474_ : TI BO R434_ W459_ (pivls (l.take (k + 1)) 1) := by rw [pivls_yes hy79_ (by omega)]; exact TI.ins (hT2.mono hs435_) he463_ he464_ he465_ he466_ he467_
      refine wpList_nil (X_blkN (X_blkN (X_then (hK73_ _ _ ?_))))
      clear hK73_
      refine C_reg ?_
      refine sv (v := (vI .i64 ((k : Int) + 1))) (x_bin rfl rfl (ib_add (IntWalk.i64_in _ (by omega)))) ?_
      refine sv (v := (vI .i64 ((k : Int) + 1))) (x_move rfl) ?_
      refine wpList_nil (X_then ?_)
      have H475_ : Holds w469_ (tr b31_ b31_ W459_ :: tr b17_ b17_ W442_ :: ro R434_ :: cl b37_ 188 [(vQ (rt b31_ W459_)), (vI .i64 (c2 + 1)), (vQ b31_)] :: clf b31_ 185 [(Value.nilIface), (Value.nilIface), (Value.nilIface), (Value.nilIface), (vP none), (vP none), (vP none), (vI .i64 0)] :: cl b23_ 188 [(vQ (rt b17_ W442_)), (vI .i64 (c1 + 1)), (vQ b17_)] :: clf b17_ 185 [(Value.nilIface), (Value.nilIface), (Value.nilIface), (Value.nilIface), (vP none), (vP none), (vP none), (vI .i64 0)] :: F) := (Holds.pkF H470_ [2, 4, 0, 0, 0, 0, 0] 1 :)
      exact ⟨⟨R434_, k + 1, W442_, W459_, c1 + 1, c2 + 1⟩, ⟨_, congrArg (fun e => mkA 117 e []) (ch (ch (ch (ch (ch (ch (ch rfl rfl) rfl) rfl) rfl) rfl) rfl) (congrArg (vI .i64) ((by first | rfl | omega | (simp; done) | (simp; omega)) : (k : Int) + 1 = ((k + 1 : Nat) : Int)))), H475_, S473_, (hz_R_R434_), (by first | assumption | omega | exact rfl), (hTn457_), (hTn474_), (by first | assumption | omega | exact rfl)⟩, by first | omega | (dsimp only; omega) | (simp; omega)⟩
     ·have c431_fp : ¬ (y78_.kind = 2) := of_decide_eq_false c431_f
      refine C_seq (fun K476_ hK476_ => C_reg ?_)
      refine sv (v := (vB (decide (y78_.kind = 0)))) (x_bin rfl rfl rfl) ?_
      refine sv (v := (vB (decide (y78_.kind = 0)))) (x_assign rfl) ?_
      refine wpList_nil (X_then (hK476_ _ _ ?_))
      clear hK476_
      refine C_cond (b := decide (y78_.kind = 0)) rfl (fun c477_t => ?_) (fun c477_f => ?_)
      ·have c477_tp : y78_.kind = 0 := of_decide_eq_true c477_t
       refine C_reg ?_
       refine sv (v := (Value.iface 186 (vQ b23_))) (x_move rfl) ?_
       refine sv (v := (vA #[(Value.iface 168 kv80_), (Value.iface 168 (vS (some ⟨b418_, 0, none⟩) ((ints y78_.key).length + 1) ((ints y78_.key).length + 1)))])) (x_loadN (vs := [(Value.iface 168 kv80_), (Value.iface 168 (vS (some ⟨b418_, 0, none⟩) ((ints y78_.key).length + 1) ((ints y78_.key).length + 1)))]) rfl Try.underlying111 rfl z111 rfl (Rd.cells (Holds.rd H426_ 2 rfl) 0 rfl)) ?_
       refine sv (v := (vA #[])) (by kernel_rfl) ?_
       refine sv (v := (Value.iface 205 (vA #[]))) (by kernel_rfl) ?_
       have hhi478_ : y78_.hi = y78_.lo ++ [0] := PM.hi_pt (by omega)
       obtain ⟨R479_, hs480_, ⟨R481_, ha482_, hs483_⟩, H484_⟩ := Holds.gift H426_
       have hz_R_R479_ := Sub.trans' hsR1 hs480_
       have hr485_ : RS R479_ 1 (vS (some ⟨b418_, 0, none⟩) ((ints y78_.key).length + 1) ((ints y78_.key).length + 1)) (List.length (ints y78_.key ++ [0])) (bytesV (ints y78_.key ++ [0])) := (RS.set_ (cl_RSn (sz := 1) (k := (List.length (ints y78_.key) + 1)) ha482_ (Sub.rfl' _) (by simp [bytesV_len]) (by omega)) rfl (by simp)).mono hs483_
       have H496_ := ((Holds.bring (Holds.bring (Holds.bring (Holds.bring H484_ 7 rfl) 4 rfl) 7 rfl) 3 rfl) :)
       refine S_list (T_invoke (al := [(vQ b23_), (vA #[((Value.iface 168 kv80_)), ((Value.iface 168 (vS (some ⟨b418_, 0, none⟩) ((ints y78_.key).length + 1) ((ints y78_.key).length + 1))))]), ((Value.iface 205 (vA #[])))]) (pre := [cl b23_ 188 [(vQ (rt b17_ W1)), (vI .i64 c1), (vQ b17_)], tr b17_ b17_ W1, clf b17_ 185 [(Value.nilIface), (Value.nilIface), (Value.nilIface), (Value.nilIface), (vP none), (vP none), (vP none), (vI .i64 0)]]) rfl (fun w => by kernel_rfl) (lcons rfl (lcons (congrArg (fun l => vA (List.toArray l)) (lcons (rfl : (Value.iface 168 kv80_) = ((Value.iface 168 kv80_))) (lcons (rfl : (Value.iface 168 (vS (some ⟨b418_, 0, none⟩) ((ints y78_.key).length + 1) ((ints y78_.key).length + 1))) = ((Value.iface 168 (vS (some ⟨b418_, 0, none⟩) ((ints y78_.key).length + 1) ((ints y78_.key).length + 1))))) rfl))) (lcons (rfl : (Value.iface 205 (vA #[])) = ((Value.iface 205 (vA #[])))) rfl))) cb147 (itInsert R479_ (List UInt8) BO b23_ b17_ c1 [(Value.nilIface), (Value.nilIface), (Value.nilIface), (Value.nilIface), (vP none), (vP none), (vP none), (vI .i64 0)] W1 168 168 205 kv80_ (vS (some ⟨b418_, 0, none⟩) ((ints y78_.key).length + 1) ((ints y78_.key).length + 1)) (vA #[]) y78_.lo y78_.hi (((hT1.mono hs480_)).ok) (⟨kv80_, ints y78_.key, rfl, (RS.mono hkv82_ hz_R_R479_), (u8s_ints y78_.key).symm⟩) (⟨_, ints y78_.key ++ [0], rfl, hr485_, by rw [hhi478_, u8s_snoc0]; rfl⟩) (by first | assumption | omega) (hT1.s)) H496_ ?_)
       rintro v486_ p500_ w497_ ⟨W487_, L1488_, L2489_, z490_, rfl, rfl, he491_, he492_, he493_, he494_, he495_⟩ S499_ H498_
       have S501_ := Same.trans S428_ S499_
       have hTn502_ : TI BO R479_ W487_ (pivls (l.take (k + 1)) 0) := by rw [pivls_yes hy79_ (by omega)]; exact TI.ins (hT1.mono hs480_) he491_ he492_ he493_ he494_ he495_
       refine wpList_nil (X_blkN (X_blkN (X_then (hK73_ _ _ ?_))))
       clear hK73_
       refine C_reg ?_
       refine sv (v := (vI .i64 ((k : Int) + 1))) (x_bin rfl rfl (ib_add (IntWalk.i64_in _ (by omega)))) ?_
       refine sv (v := (vI .i64 ((k : Int) + 1))) (x_move rfl) ?_
       refine wpList_nil (X_then ?_)
       have H503_ : Holds w497_ (tr b31_ b31_ W2 :: tr b17_ b17_ W487_ :: ro R479_ :: cl b37_ 188 [(vQ (rt b31_ W2)), (vI .i64 c2), (vQ b31_)] :: clf b31_ 185 [(Value.nilIface), (Value.nilIface), (Value.nilIface), (Value.nilIface), (vP none), (vP none), (vP none), (vI .i64 0)] :: cl b23_ 188 [(vQ (rt b17_ W487_)), (vI .i64 (c1 + 1)), (vQ b17_)] :: clf b17_ 185 [(Value.nilIface), (Value.nilIface), (Value.nilIface), (Value.nilIface), (vP none), (vP none), (vP none), (vI .i64 0)] :: F) := (Holds.pkF H498_ [5, 2, 0, 3, 3, 0, 0] 1 :)
       exact ⟨⟨R479_, k + 1, W487_, W2, c1 + 1, c2⟩, ⟨_, congrArg (fun e => mkA 117 e []) (ch (ch (ch (ch (ch (ch (ch rfl rfl) rfl) rfl) rfl) rfl) rfl) (congrArg (vI .i64) ((by first | rfl | omega | (simp; done) | (simp; omega)) : (k : Int) + 1 = ((k + 1 : Nat) : Int)))), H503_, S501_, (hz_R_R479_), (by first | assumption | omega | exact rfl), (hTn502_), ((by rw [pivls_no hy79_ (by omega)]; exact (hT2.mono hs480_))), (by first | assumption | omega | exact rfl)⟩, by first | omega | (dsimp only; omega) | (simp; omega)⟩
      ·have c477_fp : ¬ (y78_.kind = 0) := of_decide_eq_false c477_f
       refine C_seq (fun K504_ hK504_ => C_reg ?_)
       refine sv (v := (vB (decide (y78_.kind = 1)))) (x_bin rfl rfl rfl) ?_
       refine sv (v := (vB (decide (y78_.kind = 1)))) (x_assign rfl) ?_
       refine wpList_nil (X_then (hK504_ _ _ ?_))
       clear hK504_
       refine C_cond (b := decide (y78_.kind = 1)) rfl (fun c505_t => ?_) (fun c505_f => ?_)
       ·have c505_tp : y78_.kind = 1 := of_decide_eq_true c505_t
        refine C_reg ?_
        refine sv (v := (Value.iface 186 (vQ b37_))) (x_move rfl) ?_
        refine sv (v := (vA #[(Value.iface 168 kv80_), (Value.iface 168 (vS (some ⟨b418_, 0, none⟩) ((ints y78_.key).length + 1) ((ints y78_.key).length + 1)))])) (x_loadN (vs := [(Value.iface 168 kv80_), (Value.iface 168 (vS (some ⟨b418_, 0, none⟩) ((ints y78_.key).length + 1) ((ints y78_.key).length + 1)))]) rfl Try.underlying111 rfl z111 rfl (Rd.cells (Holds.rd H426_ 2 rfl) 0 rfl)) ?_
        refine sv (v := (vA #[])) (by kernel_rfl) ?_
        refine sv (v := (Value.iface 205 (vA #[]))) (by kernel_rfl) ?_
        have hhi506_ : y78_.hi = y78_.lo ++ [0] := PM.hi_pt (by omega)
        obtain ⟨R507_, hs508_, ⟨R509_, ha510_, hs511_⟩, H512_⟩ := Holds.gift H426_
        have hz_R_R507_ := Sub.trans' hsR1 hs508_
        have hr513_ : RS R507_ 1 (vS (some ⟨b418_, 0, none⟩) ((ints y78_.key).length + 1) ((ints y78_.key).length + 1)) (List.length (ints y78_.key ++ [0])) (bytesV (ints y78_.key ++ [0])) := (RS.set_ (cl_RSn (sz := 1) (k := (List.length (ints y78_.key) + 1)) ha510_ (Sub.rfl' _) (by simp [bytesV_len]) (by omega)) rfl (by simp)).mono hs511_
        have H524_ := ((Holds.bring (Holds.bring (Holds.bring (Holds.bring H512_ 5 rfl) 3 rfl) 5 rfl) 3 rfl) :)
        refine S_list (T_invoke (al := [(vQ b37_), (vA #[((Value.iface 168 kv80_)), ((Value.iface 168 (vS (some ⟨b418_, 0, none⟩) ((ints y78_.key).length + 1) ((ints y78_.key).length + 1))))]), ((Value.iface 205 (vA #[])))]) (pre := [cl b37_ 188 [(vQ (rt b31_ W2)), (vI .i64 c2), (vQ b31_)], tr b31_ b31_ W2, clf b31_ 185 [(Value.nilIface), (Value.nilIface), (Value.nilIface), (Value.nilIface), (vP none), (vP none), (vP none), (vI .i64 0)]]) rfl (fun w => by kernel_rfl) (lcons rfl (lcons (congrArg (fun l => vA (List.toArray l)) (lcons (rfl : (Value.iface 168 kv80_) = ((Value.iface 168 kv80_))) (lcons (rfl : (Value.iface 168 (vS (some ⟨b418_, 0, none⟩) ((ints y78_.key).length + 1) ((ints y78_.key).length + 1))) = ((Value.iface 168 (vS (some ⟨b418_, 0, none⟩) ((ints y78_.key).length + 1) ((ints y78_.key).length + 1))))) rfl))) (lcons (rfl : (Value.iface 205 (vA #[])) = ((Value.iface 205 (vA #[])))) rfl))) cb147 (itInsert R507_ (List UInt8) BO b37_ b31_ c2 [(Value.nilIface), (Value.nilIface), (Value.nilIface), (Value.nilIface), (vP none), (vP none), (vP none), (vI .i64 0)] W2 168 168 205 kv80_ (vS (some ⟨b418_, 0, none⟩) ((ints y78_.key).length + 1) ((ints y78_.key).length + 1)) (vA #[]) y78_.lo y78_.hi (((hT2.mono hs508_)).ok) (⟨kv80_, ints y78_.key, rfl, (RS.mono hkv82_ hz_R_R507_), (u8s_ints y78_.key).symm⟩) (⟨_, ints y78_.key ++ [0], rfl, hr513_, by rw [hhi506_, u8s_snoc0]; rfl⟩) (by first | assumption | omega) (hT2.s)) H524_ ?_)
        rintro v514_ p528_ w525_ ⟨W515_, L1516_, L2517_, z518_, rfl, rfl, he519_, he520_, he521_, he522_, he523_⟩ S527_ H526_
        have S529_ := Same.trans S428_ S527_
        have hTn530_ : TI BO R507_ W515_ (pivls (l.take (k + 1)) 1) := by rw [pivls_yes hy79_ (by omega)]; exact TI.ins (hT2.mono hs508_) he519_ he520_ he521_ he522_ he523_
        refine wpList_nil (X_blkN (X_blkN (X_then (hK73_ _ _ ?_))))
        clear hK73_
        refine C_reg ?_
        refine sv (v := (vI .i64 ((k : Int) + 1))) (x_bin rfl rfl (ib_add (IntWalk.i64_in _ (by omega)))) ?_
        refine sv (v := (vI .i64 ((k : Int) + 1))) (x_move rfl) ?_
        refine wpList_nil (X_then ?_)
        have H531_ : Holds w525_ (tr b31_ b31_ W515_ :: tr b17_ b17_ W1 :: ro R507_ :: cl b37_ 188 [(vQ (rt b31_ W515_)), (vI .i64 (c2 + 1)), (vQ b31_)] :: clf b31_ 185 [(Value.nilIface), (Value.nilIface), (Value.nilIface), (Value.nilIface), (vP none), (vP none), (vP none), (vI .i64 0)] :: cl b23_ 188 [(vQ (rt b17_ W1)), (vI .i64 c1), (vQ b17_)] :: clf b17_ 185 [(Value.nilIface), (Value.nilIface), (Value.nilIface), (Value.nilIface), (vP none), (vP none), (vP none), (vI .i64 0)] :: F) := (Holds.pkF H526_ [2, 4, 0, 0, 0, 1, 1] 1 :)
        exact ⟨⟨R507_, k + 1, W1, W515_, c1, c2 + 1⟩, ⟨_, congrArg (fun e => mkA 117 e []) (ch (ch (ch (ch (ch (ch (ch rfl rfl) rfl) rfl) rfl) rfl) rfl) (congrArg (vI .i64) ((by first | rfl | omega | (simp; done) | (simp; omega)) : (k : Int) + 1 = ((k + 1 : Nat) : Int)))), H531_, S529_, (hz_R_R507_), (by first | assumption | omega | exact rfl), ((by rw [pivls_no hy79_ (by omega)]; exact (hT1.mono hs508_))), (hTn530_), (by first | assumption | omega | exact rfl)⟩, by first | omega | (dsimp only; omega) | (simp; omega)⟩
       ·have c505_fp : ¬ (y78_.kind = 1) := of_decide_eq_false c505_f
        refine C_skip (X_blkN (X_blkN (X_then (hK73_ _ _ ?_))))
        clear hK73_
        refine C_reg ?_
        refine sv (v := (vI .i64 ((k : Int) + 1))) (x_bin rfl rfl (ib_add (IntWalk.i64_in _ (by omega)))) ?_
        refine sv (v := (vI .i64 ((k : Int) + 1))) (x_move rfl) ?_
        refine wpList_nil (X_then ?_)
        have H532_ : Holds w425_ (tr b31_ b31_ W2 :: tr b17_ b17_ W1 :: ro R1 :: cl b37_ 188 [(vQ (rt b31_ W2)), (vI .i64 c2), (vQ b31_)] :: clf b31_ 185 [(Value.nilIface), (Value.nilIface), (Value.nilIface), (Value.nilIface), (vP none), (vP none), (vP none), (vI .i64 0)] :: cl b23_ 188 [(vQ (rt b17_ W1)), (vI .i64 c1), (vQ b17_)] :: clf b17_ 185 [(Value.nilIface), (Value.nilIface), (Value.nilIface), (Value.nilIface), (vP none), (vP none), (vP none), (vI .i64 0)] :: F) := (Holds.pkF H426_ [3, 3, 0, 2, 2, 2, 2] 2 :)
        exact ⟨⟨R1, k + 1, W1, W2, c1, c2⟩, ⟨_, congrArg (fun e => mkA 117 e []) (ch (ch (ch (ch (ch (ch (ch rfl rfl) rfl) rfl) rfl) rfl) rfl) (congrArg (vI .i64) ((by first | rfl | omega | (simp; done) | (simp; omega)) : (k : Int) + 1 = ((k + 1 : Nat) : Int)))), H532_, S428_, (hsR1), (by first | assumption | omega | exact rfl), ((by rw [pivls_no hy79_ (by omega)]; exact hT1)), ((by rw [pivls_no hy79_ (by omega)]; exact hT2)), (by first | assumption | omega | exact rfl)⟩, by first | omega | (dsimp only; omega) | (simp; omega)⟩
   ·have c315_fp : ¬ (x312_ ≠ 0) := of_decide_eq_false c315_f
    refine C_skip (X_then (hK92_ _ _ ?_))
    clear hK92_
    refine C_seq (fun K533_ hK533_ => ?_)
    refine C_seq (fun K534_ hK534_ => C_reg ?_)
    refine sv (v := (vQ p75_)) (x_move rfl) ?_
    refine sv (v := (vQ p75_)) (by kernel_rfl) ?_
    refine sv (v := (vP (some ⟨p75_, 2, none⟩))) (by kernel_rfl) ?_
    refine sv (v := ev81_) (x_load1 rfl Try.underlying122 rfl (RC.cell (hrc84_.mono hsR1) (Holds.ro_at H88_ 3 rfl) (j := 2) (u := ev81_) (rfl))) ?_
    refine sv (v := (vI .i64 ((List.length (ints y78_.end_)) : Int))) (x_lenRS rfl (RS.mono hev83_ hsR1) Try.underlying122) ?_
    refine sv (v := (vB (decide (((List.length (ints y78_.end_)) : Int) ≠ 0)))) (x_bin rfl rfl rfl) ?_
    refine wpList_nil (X_then (hK534_ _ _ ?_))
    clear hK534_
    refine C_cond (b := decide (((List.length (ints y78_.end_)) : Int) ≠ 0)) rfl (fun c535_t => ?_) (fun c535_f => ?_)
    ·have c535_tp : ((List.length (ints y78_.end_)) : Int) ≠ 0 := of_decide_eq_true c535_t
     refine C_reg ?_
     refine sv (v := (vQ p75_)) (x_move rfl) ?_
     refine sv (v := (vQ p75_)) (by kernel_rfl) ?_
     refine sv (v := (vP (some ⟨p75_, 1, none⟩))) (by kernel_rfl) ?_
     refine sv (v := kv80_) (x_load1 rfl Try.underlying122 rfl (RC.cell (hrc84_.mono hsR1) (Holds.ro_at H88_ 3 rfl) (j := 1) (u := kv80_) (rfl))) ?_
     refine sv (v := (vS none 0 0)) (x_move rfl) ?_
     refine S_list (T_callW (al := [kv80_, (vS none 0 0)]) rfl rfl cb101 (Calls.into (n := 10) (al := [kv80_, (vS none 0 0)]) Try.func101 rfl Try.ntmps101 rfl rfl ?_))
     refine C_seq (fun K536_ hK536_ => C_reg ?_)
     refine S_list (T_alloc z111 H88_ ?_)
     intro b537_ w538_ S540_ H539_
     have S541_ := Same.trans S90_ S540_
     refine wpList_nil (X_then (hK536_ _ _ ?_))
     clear hK536_
     refine C_seq (fun K542_ hK542_ => C_reg ?_)
     refine sv (v := kv80_) (x_move rfl) ?_
     refine sv (v := (Value.iface 168 kv80_)) (by kernel_rfl) ?_
     refine sv (v := (vS none 0 0)) (x_move rfl) ?_
     refine sv (v := (Value.iface 168 (vS none 0 0))) (by kernel_rfl) ?_
     refine sv (v := (vA #[(Value.iface 168 kv80_), (Value.iface 168 (vS none 0 0))])) (by kernel_rfl) ?_
     refine S_list0 (T_storeN (vs := [(Value.iface 168 kv80_), (Value.iface 168 (vS none 0 0))]) rfl rfl z111 rfl (by simp [Value.oneCell']) H539_ 0 rfl (Nat.le_of_ble_eq_true (by rfl)) ?_)
     intro w543_ S545_ H544_
     have S546_ := Same.trans S541_ S545_
     refine wpList_nil (X_then (hK542_ _ _ ?_))
     clear hK542_
     refine C_ret ?_
     refine R_any (v := (vA #[(Value.iface 168 kv80_), (Value.iface 168 (vS none 0 0))])) (run_results1 rfl ⟨_, rfl, load_resN Try.underlying111 rfl z111 rfl (vs := [(Value.iface 168 kv80_), (Value.iface 168 (vS none 0 0))]) (Holds.cl_cells H544_ 0 rfl 0 rfl)⟩) ⟨_, rfl, ?_⟩
     refine S_list0 (T_storeN (vs := [(Value.iface 168 kv80_), (Value.iface 168 (vS none 0 0))]) rfl rfl z111 rfl (by simp [Value.oneCell']) H544_ 1 rfl (Nat.le_of_ble_eq_true (by rfl)) ?_)
     intro w547_ S549_ H548_
     have S550_ := Same.trans S546_ S549_
     refine wpList_nil (X_then (hK533_ _ _ ?_))
     clear hK533_
     refine C_seq (fun K551_ hK551_ => C_reg ?_)
     refine sv (v := (vQ p75_)) (x_move rfl) ?_
     refine sv (v := (vQ p75_)) (by kernel_rfl) ?_
     refine sv (v := (vQ p75_)) (by kernel_rfl) ?_
     refine sv (v := (vI .i32 y78_.kind)) (x_load1 rfl Try.underlying123 rfl (RC.cell (hrc84_.mono hsR1) (Holds.ro_at H548_ 4 rfl) (j := 0) (u := (vI .i32 y78_.kind)) (rfl))) ?_
     refine wpList_nil (X_then (hK551_ _ _ ?_))
     clear hK551_
     refine C_block ?_
     refine C_seq (fun K552_ hK552_ => C_reg ?_)
     refine sv (v := (vB (decide (y78_.kind = 2)))) (x_bin rfl rfl rfl) ?_
     refine sv (v := (vB (decide (y78_.kind = 2)))) (x_assign rfl) ?_
     refine wpList_nil (X_then (hK552_ _ _ ?_))
     clear hK552_
     refine C_cond (b := decide (y78_.kind = 2)) rfl (fun c553_t => ?_) (fun c553_f => ?_)
     ·have c553_tp : y78_.kind = 2 := of_decide_eq_true c553_t
      refine C_seq (fun K554_ hK554_ => C_reg ?_)
      refine sv (v := (Value.iface 186 (vQ b23_))) (x_move rfl) ?_
      refine sv (v := (vA #[(Value.iface 168 kv80_), (Value.iface 168 (vS none 0 0))])) (x_loadN (vs := [(Value.iface 168 kv80_), (Value.iface 168 (vS none 0 0))]) rfl Try.underlying111 rfl z111 rfl (Rd.cells (Holds.rd H548_ 1 rfl) 0 rfl)) ?_
      refine sv (v := (vA #[])) (by kernel_rfl) ?_
      refine sv (v := (Value.iface 205 (vA #[]))) (by kernel_rfl) ?_
      have hhi555_ : y78_.hi = [] := PM.hi_nil (bytes_one (by omega) hx313_ (by omega))
      have H566_ := ((Holds.bring (Holds.bring (Holds.bring (Holds.bring H548_ 8 rfl) 4 rfl) 8 rfl) 6 rfl) :)
      refine S_list (T_invoke (al := [(vQ b23_), (vA #[((Value.iface 168 kv80_)), ((Value.iface 168 (vS none 0 0)))]), ((Value.iface 205 (vA #[])))]) (pre := [cl b23_ 188 [(vQ (rt b17_ W1)), (vI .i64 c1), (vQ b17_)], tr b17_ b17_ W1, clf b17_ 185 [(Value.nilIface), (Value.nilIface), (Value.nilIface), (Value.nilIface), (vP none), (vP none), (vP none), (vI .i64 0)]]) rfl (fun w => by kernel_rfl) (lcons rfl (lcons (congrArg (fun l => vA (List.toArray l)) (lcons (rfl : (Value.iface 168 kv80_) = ((Value.iface 168 kv80_))) (lcons (rfl : (Value.iface 168 (vS none 0 0)) = ((Value.iface 168 (vS none 0 0)))) rfl))) (lcons (rfl : (Value.iface 205 (vA #[])) = ((Value.iface 205 (vA #[])))) rfl))) cb147 (itInsert R1 (List UInt8) BO b23_ b17_ c1 [(Value.nilIface), (Value.nilIface), (Value.nilIface), (Value.nilIface), (vP none), (vP none), (vP none), (vI .i64 0)] W1 168 168 205 kv80_ (vS none 0 0) (vA #[]) y78_.lo y78_.hi ((hT1).ok) (⟨kv80_, ints y78_.key, rfl, (RS.mono hkv82_ hsR1), (u8s_ints y78_.key).symm⟩) (⟨_, [], rfl, RS.nil _ _, hhi555_⟩) (by first | assumption | omega) (hT1.s)) H566_ ?_)
      rintro v556_ p570_ w567_ ⟨W557_, L1558_, L2559_, z560_, rfl, rfl, he561_, he562_, he563_, he564_, he565_⟩ S569_ H568_
      have S571_ := Same.trans S550_ S569_
      have hTn572_ : TI BO R1 W557_ (pivls (l.take (k + 1)) 0) := by rw [pivls_yes hy79_ (by omega)]; exact TI.ins hT1 he561_ he562_ he563_ he564_ he565_
      refine wpList_nil (X_then (hK554_ _ _ ?_))
      clear hK554_
      refine C_reg ?_
      refine sv (v := (Value.iface 186 (vQ b37_))) (x_move rfl) ?_
      refine sv (v := (vA #[(Value.iface 168 kv80_), (Value.iface 168 (vS none 0 0))])) (x_loadN (vs := [(Value.iface 168 kv80_), (Value.iface 168 (vS none 0 0))]) rfl Try.underlying111 rfl z111 rfl (Rd.cells (Holds.rd H568_ 5 rfl) 0 rfl)) ?_
      refine sv (v := (vA #[])) (by kernel_rfl) ?_
      refine sv (v := (Value.iface 205 (vA #[]))) (by kernel_rfl) ?_
      have H583_ := ((Holds.bring (Holds.bring (Holds.bring (Holds.bring H568_ 8 rfl) 7 rfl) 8 rfl) 3 rfl) :)
      refine S_list (T_invoke (al := [(vQ b37_), (vA #[((Value.iface 168 kv80_)), ((Value.iface 168 (vS none 0 0)))]), ((Value.iface 205 (vA #[])))]) (pre := [cl b37_ 188 [(vQ (rt b31_ W2)), (vI .i64 c2), (vQ b31_)], tr b31_ b31_ W2, clf b31_ 185 [(Value.nilIface), (Value.nilIface), (Value.nilIface), (Value.nilIface), (vP none), (vP none), (vP none), (vI .i64 0)]]) rfl (fun w => by kernel_rfl) (lcons rfl (lcons (congrArg (fun l => vA (List.toArray l)) (lcons (rfl : (Value.iface 168 kv80_) = ((Value.iface 168 kv80_))) (lcons (rfl : (Value.iface 168 (vS none 0 0)) = ((Value.iface 168 (vS none 0 0)))) rfl))) (lcons (rfl : (Value.iface 205 (vA #[])) = ((Value.iface 205 (vA #[])))) rfl))) cb147 (itInsert R1 (List UInt8) BO b37_ b31_ c2 [(Value.nilIface), (Value.nilIface), (Value.nilIface), (Value.nilIface), (vP none), (vP none), (vP none), (vI .i64 0)] W2 168 168 205 kv80_ (vS none 0 0) (vA #[]) y78_.lo y78_.hi ((hT2).ok) (⟨kv80_, ints y78_.key, rfl, (RS.mono hkv82_ hsR1), (u8s_ints y78_.key).symm⟩) (⟨_, [], rfl, RS.nil _ _, hhi555_⟩) (by first | assumption | omega) (hT2.s)) H583_ ?_)
      rintro v573_ p587_ w584_ ⟨W574_, L1575_, L2576_, z577_, rfl, rfl, he578_, he579_, he580_, he581_, he582_⟩ S586_ H585_
      have S588_ := Same.trans S571_ S586_
      have hTn589_ : TI BO R1 W574_ (pivls (l.take (k + 1)) 1) := by rw [pivls_yes hy79_ (by omega)]; exact TI.ins hT2 he578_ he579_ he580_ he581_ he582_
      refine wpList_nil (X_blkN (X_blkN (X_then (hK73_ _ _ ?_))))
      clear hK73_
      refine C_reg ?_
      refine sv (v := (vI .i64 ((k : Int) + 1))) (x_bin rfl rfl (ib_add (IntWalk.i64_in _ (by omega)))) ?_
      refine sv (v := (vI .i64 ((k : Int) + 1))) (x_move rfl) ?_
      refine wpList_nil (X_then ?_)
      have H590_ : Holds w584_ (tr b31_ b31_ W574_ :: tr b17_ b17_ W557_ :: ro R1 :: cl b37_ 188 [(vQ (rt b31_ W574_)), (vI .i64 (c2 + 1)), (vQ b31_)] :: clf b31_ 185 [(Value.nilIface), (Value.nilIface), (Value.nilIface), (Value.nilIface), (vP none), (vP none), (vP none), (vI .i64 0)] :: cl b23_ 188 [(vQ (rt b17_ W557_)), (vI .i64 (c1 + 1)), (vQ b17_)] :: clf b17_ 185 [(Value.nilIface), (Value.nilIface), (Value.nilIface), (Value.nilIface), (vP none), (vP none), (vP none), (vI .i64 0)] :: F) := (Holds.pkF H585_ [2, 4, 0, 0, 0, 0, 0] 2 :)
      exact ⟨⟨R1, k + 1, W557_, W574_, c1 + 1, c2 + 1⟩, ⟨_, congrArg (fun e => mkA 117 e []) (ch (ch (ch (ch (ch (ch (ch rfl rfl) rfl) rfl) rfl) rfl) rfl) (congrArg (vI .i64) ((by first | rfl | omega | (simp; done) | (simp; omega)) : (k : Int) + 1 = ((k + 1 : Nat) : Int)))), H590_, S588_, (hsR1), (by first | assumption | omega | exact rfl), (hTn572_), (hTn589_), (by first | assumption | omega | exact rfl)⟩, by first | omega | (dsimp only; omega) | (simp; omega)⟩
     ·have c553_fp : ¬ (y78_.kind = 2) := of_decide_eq_false c553_f
      refine C_seq (fun K591_ hK591_ => C_reg ?_)
      refine sv (v := (vB (decide (y78_.kind = 0)))) (x_bin rfl rfl rfl) ?_
      refine sv (v := (vB (decide (y78_.kind = 0)))) (x_assign rfl) ?_
      refine wpList_nil (X_then (hK591_ _ _ ?_))
      clear hK591_
      refine C_cond (b := decide (y78_.kind = 0)) rfl (fun c592_t => ?_) (fun c592_f => ?_)
      ·have c592_tp : y78_.kind = 0 := of_decide_eq_true c592_t
       refine C_reg ?_
       refine sv (v := (Value.iface 186 (vQ b23_))) (x_move rfl) ?_
       refine sv (v := (vA #[(Value.iface 168 kv80_), (Value.iface 168 (vS none 0 0))])) (x_loadN (vs := [(Value.iface 168 kv80_), (Value.iface 168 (vS none 0 0))]) rfl Try.underlying111 rfl z111 rfl (Rd.cells (Holds.rd H548_ 1 rfl) 0 rfl)) ?_
       refine sv (v := (vA #[])) (by kernel_rfl) ?_
       refine sv (v := (Value.iface 205 (vA #[]))) (by kernel_rfl) ?_
       have hhi593_ : y78_.hi = [] := PM.hi_nil (bytes_one (by omega) hx313_ (by omega))
       have H604_ := ((Holds.bring (Holds.bring (Holds.bring (Holds.bring H548_ 8 rfl) 4 rfl) 8 rfl) 6 rfl) :)
       refine S_list (T_invoke (al := [(vQ b23_), (vA #[((Value.iface 168 kv80_)), ((Value.iface 168 (vS none 0 0)))]), ((Value.iface 205 (vA #[])))]) (pre := [cl b23_ 188 [(vQ (rt b17_ W1)), (vI .i64 c1), (vQ b17_)], tr b17_ b17_ W1, clf b17_ 185 [(Value.nilIface), (Value.nilIface), (Value.nilIface), (Value.nilIface), (vP none), (vP none), (vP none), (vI .i64 0)]]) rfl (fun w => by kernel_rfl) (lcons rfl (lcons (congrArg (fun l => vA (List.toArray l)) (lcons (rfl : (Value.iface 168 kv80_) = ((Value.iface 168 kv80_))) (lcons (rfl : (Value.iface 168 (vS none 0 0)) = ((Value.iface 168 (vS none 0 0)))) rfl))) (lcons (rfl : (Value.iface 205 (vA #[])) = ((Value.iface 205 (vA #[])))) rfl))) cb147 (itInsert R1 (List UInt8) BO b23_ b17_ c1 [(Value.nilIface), (Value.nilIface), (Value.nilIface), (Value.nilIface), (vP none), (vP none), (vP none), (vI .i64 0)] W1 168 168 205 kv80_ (vS none 0 0) (vA #[]) y78_.lo y78_.hi ((hT1).ok) (⟨kv80_, ints y78_.key, rfl, (RS.mono hkv82_ hsR1), (u8s_ints y78_.key).symm⟩) (⟨_, [], rfl, RS.nil _ _, hhi593_⟩) (by first | assumption | omega) (hT1.s)) H604_ ?_)
       rintro v594_ p608_ w605_ ⟨W595_, L1596_, L2597_, z598_, rfl, rfl, he599_, he600_, he601_, he602_, he603_⟩ S607_ H606_
       have S609_ := Same.trans S550_ S607_
       have hTn610_ : TI BO R1 W595_ (pivls (l.take (k + 1)) 0) := by rw [pivls_yes hy79_ (by omega)]; exact TI.ins hT1 he599_ he600_ he601_ he602_ he603_
       refine wpList_nil (X_blkN (X_blkN (X_then (hK73_ _ _ ?_))))
       clear hK73_
       refine C_reg ?_
       refine sv (v := (vI .i64 ((k : Int) + 1))) (x_bin rfl rfl (ib_add (IntWalk.i64_in _ (by omega)))) ?_
       refine sv (v := (vI .i64 ((k : Int) + 1))) (x_move rfl) ?_
       refine wpList_nil (X_then ?_)
       have H611_ : Holds w605_ (tr b31_ b31_ W2 :: tr b17_ b17_ W595_ :: ro R1 :: cl b37_ 188 [(vQ (rt b31_ W2)), (vI .i64 c2), (vQ b31_)] :: clf b31_ 185 [(Value.nilIface), (Value.nilIface), (Value.nilIface), (Value.nilIface), (vP none), (vP none), (vP none), (vI .i64 0)] :: cl b23_ 188 [(vQ (rt b17_ W595_)), (vI .i64 (c1 + 1)), (vQ b17_)] :: clf b17_ 185 [(Value.nilIface), (Value.nilIface), (Value.nilIface), (Value.nilIface), (vP none), (vP none), (vP none), (vI .i64 0)] :: F) := (Holds.pkF H606_ [6, 2, 0, 4, 4, 0, 0] 2 :)
       exact ⟨⟨R1, k + 1, W595_, W2, c1 + 1, c2⟩, ⟨_, congrArg (fun e => mkA 117 e []) (ch (ch (ch (ch (ch (ch (ch rfl rfl) rfl) rfl) rfl) rfl) rfl) (congrArg (vI .i64) ((by first | rfl | omega | (simp; done) | (simp; omega)) : (k : Int) + 1 = ((k + 1 : Nat) : Int)))), H611_, S609_, (hsR1), (by first | assumption | omega | exact rfl), (hTn610_), ((by rw [pivls_no hy79_ (by omega)]; exact hT2)), (by first | assumption | omega | exact rfl)⟩, by first | omega | (dsimp only; omega) | (simp; omega)⟩
      ·have c592_fp : ¬ (y78_.kind = 0) := of_decide_eq_false c592_f
       refine C_seq (fun K612_ hK612_ => C_reg ?_)
       refine sv (v := (vB (decide (y78_.kind = 1)))) (x_bin rfl rfl rfl) ?_
       refine sv (v := (vB (decide (y78_.kind = 1)))) (x_assign rfl) ?_
       refine wpList_nil (X_then (hK612_ _ _ ?_))
       clear hK612_
       refine C_cond (b := decide (y78_.kind = 1)) rfl (fun c613_t => ?_) (fun c613_f => ?_)
       ·have c613_tp : y78_.kind = 1 := of_decide_eq_true c613_t
        refine C_reg ?_
        refine sv (v := (Value.iface 186 (vQ b37_))) (x_move rfl) ?_
        refine sv (v := (vA #[(Value.iface 168 kv80_), (Value.iface 168 (vS none 0 0))])) (x_loadN (vs := [(Value.iface 168 kv80_), (Value.iface 168 (vS none 0 0))]) rfl Try.underlying111 rfl z111 rfl (Rd.cells (Holds.rd H548_ 1 rfl) 0 rfl)) ?_
        refine sv (v := (vA #[])) (by kernel_rfl) ?_
        refine sv (v := (Value.iface 205 (vA #[]))) (by kernel_rfl) ?_
        have hhi614_ : y78_.hi = [] := PM.hi_nil (bytes_one (by omega) hx313_ (by omega))
        have H625_ := ((Holds.bring (Holds.bring (Holds.bring (Holds.bring H548_ 6 rfl) 3 rfl) 6 rfl) 6 rfl) :)
        refine S_list (T_invoke (al := [(vQ b37_), (vA #[((Value.iface 168 kv80_)), ((Value.iface 168 (vS none 0 0)))]), ((Value.iface 205 (vA #[])))]) (pre := [cl b37_ 188 [(vQ (rt b31_ W2)), (vI .i64 c2), (vQ b31_)], tr b31_ b31_ W2, clf b31_ 185 [(Value.nilIface), (Value.nilIface), (Value.nilIface), (Value.nilIface), (vP none), (vP none), (vP none), (vI .i64 0)]]) rfl (fun w => by kernel_rfl) (lcons rfl (lcons (congrArg (fun l => vA (List.toArray l)) (lcons (rfl : (Value.iface 168 kv80_) = ((Value.iface 168 kv80_))) (lcons (rfl : (Value.iface 168 (vS none 0 0)) = ((Value.iface 168 (vS none 0 0)))) rfl))) (lcons (rfl : (Value.iface 205 (vA #[])) = ((Value.iface 205 (vA #[])))) rfl))) cb147 (itInsert R1 (List UInt8) BO b37_ b31_ c2 [(Value.nilIface), (Value.nilIface), (Value.nilIface), (Value.nilIface), (vP none), (vP none), (vP none), (vI .i64 0)] W2 168 168 205 kv80_ (vS none 0 0) (vA #[]) y78_.lo y78_.hi ((hT2).ok) (⟨kv80_, ints y78_.key, rfl, (RS.mono hkv82_ hsR1), (u8s_ints y78_.key).symm⟩) (⟨_, [], rfl, RS.nil _ _, hhi614_⟩) (by first | assumption | omega) (hT2.s)) H625_ ?_)
        rintro v615_ p629_ w626_ ⟨W616_, L1617_, L2618_, z619_, rfl, rfl, he620_, he621_, he622_, he623_, he624_⟩ S628_ H627_
        have S630_ := Same.trans S550_ S628_
        have hTn631_ : TI BO R1 W616_ (pivls (l.take (k + 1)) 1) := by rw [pivls_yes hy79_ (by omega)]; exact TI.ins hT2 he620_ he621_ he622_ he623_ he624_
        refine wpList_nil (X_blkN (X_blkN (X_then (hK73_ _ _ ?_))))
        clear hK73_
        refine C_reg ?_
        refine sv (v := (vI .i64 ((k : Int) + 1))) (x_bin rfl rfl (ib_add (IntWalk.i64_in _ (by omega)))) ?_
        refine sv (v := (vI .i64 ((k : Int) + 1))) (x_move rfl) ?_
        refine wpList_nil (X_then ?_)
        have H632_ : Holds w626_ (tr b31_ b31_ W616_ :: tr b17_ b17_ W1 :: ro R1 :: cl b37_ 188 [(vQ (rt b31_ W616_)), (vI .i64 (c2 + 1)), (vQ b31_)] :: clf b31_ 185 [(Value.nilIface), (Value.nilIface), (Value.nilIface), (Value.nilIface), (vP none), (vP none), (vP none), (vI .i64 0)] :: cl b23_ 188 [(vQ (rt b17_ W1)), (vI .i64 c1), (vQ b17_)] :: clf b17_ 185 [(Value.nilIface), (Value.nilIface), (Value.nilIface), (Value.nilIface), (vP none), (vP none), (vP none), (vI .i64 0)] :: F) := (Holds.pkF H627_ [2, 5, 0, 0, 0, 2, 2] 2 :)
        exact ⟨⟨R1, k + 1, W1, W616_, c1, c2 + 1⟩, ⟨_, congrArg (fun e => mkA 117 e []) (ch (ch (ch (ch (ch (ch (ch rfl rfl) rfl) rfl) rfl) rfl) rfl) (congrArg (vI .i64) ((by first | rfl | omega | (simp; done) | (simp; omega)) : (k : Int) + 1 = ((k + 1 : Nat) : Int)))), H632_, S630_, (hsR1), (by first | assumption | omega | exact rfl), ((by rw [pivls_no hy79_ (by omega)]; exact hT1)), (hTn631_), (by first | assumption | omega | exact rfl)⟩, by first | omega | (dsimp only; omega) | (simp; omega)⟩
       ·have c613_fp : ¬ (y78_.kind = 1) := of_decide_eq_false c613_f
        refine C_skip (X_blkN (X_blkN (X_then (hK73_ _ _ ?_))))
        clear hK73_
        refine C_reg ?_
        refine sv (v := (vI .i64 ((k : Int) + 1))) (x_bin rfl rfl (ib_add (IntWalk.i64_in _ (by omega)))) ?_
        refine sv (v := (vI .i64 ((k : Int) + 1))) (x_move rfl) ?_
        refine wpList_nil (X_then ?_)
        have H633_ : Holds w547_ (tr b31_ b31_ W2 :: tr b17_ b17_ W1 :: ro R1 :: cl b37_ 188 [(vQ (rt b31_ W2)), (vI .i64 c2), (vQ b31_)] :: clf b31_ 185 [(Value.nilIface), (Value.nilIface), (Value.nilIface), (Value.nilIface), (vP none), (vP none), (vP none), (vI .i64 0)] :: cl b23_ 188 [(vQ (rt b17_ W1)), (vI .i64 c1), (vQ b17_)] :: clf b17_ 185 [(Value.nilIface), (Value.nilIface), (Value.nilIface), (Value.nilIface), (vP none), (vP none), (vP none), (vI .i64 0)] :: F) := (Holds.pkF H548_ [2, 2, 2, 2, 2, 2, 2] 2 :)
        exact ⟨⟨R1, k + 1, W1, W2, c1, c2⟩, ⟨_, congrArg (fun e => mkA 117 e []) (ch (ch (ch (ch (ch (ch (ch rfl rfl) rfl) rfl) rfl) rfl) rfl) (congrArg (vI .i64) ((by first | rfl | omega | (simp; done) | (simp; omega)) : (k : Int) + 1 = ((k + 1 : Nat) : Int)))), H633_, S550_, (hsR1), (by first | assumption | omega | exact rfl), ((by rw [pivls_no hy79_ (by omega)]; exact hT1)), ((by rw [pivls_no hy79_ (by omega)]; exact hT2)), (by first | assumption | omega | exact rfl)⟩, by first | omega | (dsimp only; omega) | (simp; omega)⟩
    ·have c535_fp : ¬ (((List.length (ints y78_.end_)) : Int) ≠ 0) := of_decide_eq_false c535_f
     refine C_reg ?_
     refine sv (v := (vQ p75_)) (x_move rfl) ?_
     refine sv (v := (vQ p75_)) (by kernel_rfl) ?_
     refine sv (v := (vP (some ⟨p75_, 1, none⟩))) (by kernel_rfl) ?_
     refine sv (v := kv80_) (x_load1 rfl Try.underlying122 rfl (RC.cell (hrc84_.mono hsR1) (Holds.ro_at H88_ 3 rfl) (j := 1) (u := kv80_) (rfl))) ?_
     have H636_ := ((Holds.bring H88_ 3 rfl) :)
     refine S_list (T_call (al := [kv80_]) (pre := []) rfl rfl cb102 (bPoint R1 kv80_ (ints y78_.key) (RS.mono hkv82_ hsR1) (by first | assumption | omega)) H636_ ?_)
     rintro v634_ p640_ w637_ ⟨b635_, rfl, rfl⟩ S639_ H638_
     have S641_ := Same.trans S90_ S639_
     refine S_list0 (T_storeN (vs := [(Value.iface 168 kv80_), (Value.iface 168 (vS (some ⟨b635_, 0, none⟩) ((ints y78_.key).length + 1) ((ints y78_.key).length + 1)))]) rfl rfl z111 rfl (by simp [Value.oneCell']) H638_ 2 rfl (Nat.le_of_ble_eq_true (by rfl)) ?_)
     intro w642_ S644_ H643_
     have S645_ := Same.trans S641_ S644_
     refine wpList_nil (X_then (hK533_ _ _ ?_))
     clear hK533_
     refine C_seq (fun K646_ hK646_ => C_reg ?_)
     refine sv (v := (vQ p75_)) (x_move rfl) ?_
     refine sv (v := (vQ p75_)) (by kernel_rfl) ?_
     refine sv (v := (vQ p75_)) (by kernel_rfl) ?_
     refine sv (v := (vI .i32 y78_.kind)) (x_load1 rfl Try.underlying123 rfl (RC.cell (hrc84_.mono hsR1) (Holds.ro_at H643_ 0 rfl) (j := 0) (u := (vI .i32 y78_.kind)) (rfl))) ?_
     refine wpList_nil (X_then (hK646_ _ _ ?_))
     clear hK646_
     refine C_block ?_
     refine C_seq (fun K647_ hK647_ => C_reg ?_)
     refine sv (v := (vB (decide (y78_.kind = 2)))) (x_bin rfl rfl rfl) ?_
     refine sv (v := (vB (decide (y78_.kind = 2)))) (x_assign rfl) ?_
     refine wpList_nil (X_then (hK647_ _ _ ?_))
     clear hK647_
     refine C_cond (b := decide (y78_.kind = 2)) rfl (fun c648_t => ?_) (fun c648_f => ?_)
     ·have c648_tp : y78_.kind = 2 := of_decide_eq_true c648_t
      refine C_seq (fun K649_ hK649_ => C_reg ?_)
      refine sv (v := (Value.iface 186 (vQ b23_))) (x_move rfl) ?_
      refine sv (v := (vA #[(Value.iface 168 kv80_), (Value.iface 168 (vS (some ⟨b635_, 0, none⟩) ((ints y78_.key).length + 1) ((ints y78_.key).length + 1)))])) (x_loadN (vs := [(Value.iface 168 kv80_), (Value.iface 168 (vS (some ⟨b635_, 0, none⟩) ((ints y78_.key).length + 1) ((ints y78_.key).length + 1)))]) rfl Try.underlying111 rfl z111 rfl (Rd.cells (Holds.rd H643_ 2 rfl) 0 rfl)) ?_
      refine sv (v := (vA #[])) (by kernel_rfl) ?_
      refine sv (v := (Value.iface 205 (vA #[]))) (by kernel_rfl) ?_
      have hhi650_ : y78_.hi = y78_.lo ++ [0] := PM.hi_pt (by omega)
      obtain ⟨R651_, hs652_, ⟨R653_, ha654_, hs655_⟩, H656_⟩ := Holds.gift H643_
      have hz_R_R651_ := Sub.trans' hsR1 hs652_
      have hr657_ : RS R651_ 1 (vS (some ⟨b635_, 0, none⟩) ((ints y78_.key).length + 1) ((ints y78_.key).length + 1)) (List.length (ints y78_.key ++ [0])) (bytesV (ints y78_.key ++ [0])) := (RS.set_ (cl_RSn (sz := 1) (k := (List.length (ints y78_.key) + 1)) ha654_ (Sub.rfl' _) (by simp [bytesV_len]) (by omega)) rfl (by simp)).mono hs655_
      have H668_ := ((Holds.bring (Holds.bring (Holds.bring (Holds.bring H656_ 7 rfl) 4 rfl) 7 rfl) 3 rfl) :)
      refine S_list (T_invoke (al := [(vQ b23_), (vA #[((Value.iface 168 kv80_)), ((Value.iface 168 (vS (some ⟨b635_, 0, none⟩) ((ints y78_.key).length + 1) ((ints y78_.key).length + 1))))]), ((Value.iface 205 (vA #[])))]) (pre := [cl b23_ 188 [(vQ (rt b17_ W1)), (vI .i64 c1), (vQ b17_)], tr b17_ b17_ W1, clf b17_ 185 [(Value.nilIface), (Value.nilIface), (Value.nilIface), (Value.nilIface), (vP none), (vP none), (vP none), (vI .i64 0)]]) rfl (fun w => by kernel_rfl) (lcons rfl (lcons (congrArg (fun l => vA (List.toArray l)) (lcons (rfl : (Value.iface 168 kv80_) = ((Value.iface 168 kv80_))) (lcons (rfl : (Value.iface 168 (vS (some ⟨b635_, 0, none⟩) ((ints y78_.key).length + 1) ((ints y78_.key).length + 1))) = ((Value.iface 168 (vS (some ⟨b635_, 0, none⟩) ((ints y78_.key).length + 1) ((ints y78_.key).length + 1))))) rfl))) (lcons (rfl : (Value.iface 205 (vA #[])) = ((Value.iface 205 (vA #[])))) rfl))) cb147 (itInsert R651_ (List UInt8) BO b23_ b17_ c1 [(Value.nilIface), (Value.nilIface), (Value.nilIface), (Value.nilIface), (vP none), (vP none), (vP none), (vI .i64 0)] W1 168 168 205 kv80_ (vS (some ⟨b635_, 0, none⟩) ((ints y78_.key).length + 1) ((ints y78_.key).length + 1)) (vA #[]) y78_.lo y78_.hi (((hT1.mono hs652_)).ok) (⟨kv80_, ints y78_.key, rfl, (RS.mono hkv82_ hz_R_R651_), (u8s_ints y78_.key).symm⟩) (⟨_, ints y78_.key ++ [0], rfl, hr657_, by rw [hhi650_, u8s_snoc0]; rfl⟩) (by first | assumption | omega) (hT1.s)) H668_ ?_)
      rintro v658_ p672_ w669_ ⟨W659_, L1660_, L2661_, z662_, rfl, rfl, he663_, he664_, he665_, he666_, he667_⟩ S671_ H670_
      have S673_ := Same.trans S645_ S671_
      have hTn674_ : TI BO R651_ W659_ (pivls (l.take (k + 1)) 0) := by rw [pivls_yes hy79_ (by omega)]; exact TI.ins (hT1.mono hs652_) he663_ he664_ he665_ he666_ he667_
      refine wpList_nil (X_then (hK649_ _ _ ?_))
      clear hK649_
      refine C_reg ?_
      refine sv (v := (Value.iface 186 (vQ b37_))) (x_move rfl) ?_
      refine sv (v := (vA #[(Value.iface 168 kv80_), (Value.iface 168 (vS (some ⟨b635_, 0, none⟩) ((ints y78_.key).length + 1) ((ints y78_.key).length + 1)))])) (x_loadN (vs := [(Value.iface 168 kv80_), (Value.iface 168 (vS (some ⟨b635_, 0, none⟩) ((ints y78_.key).length + 1) ((ints y78_.key).length + 1)))]) rfl Try.underlying111 rfl z111 rfl (Rd.cells (Holds.rd H670_ 4 rfl) 0 rfl)) ?_
      refine sv (v := (vA #[])) (by kernel_rfl) ?_
      refine sv (v := (Value.iface 205 (vA #[]))) (by kernel_rfl) ?_
      have H685_ := ((Holds.bring (Holds.bring (Holds.bring (Holds.bring H670_ 7 rfl) 6 rfl) 7 rfl) 3 rfl) :)
      refine S_list (T_invoke (al := [(vQ b37_), (vA #[((Value.iface 168 kv80_)), ((Value.iface 168 (vS (some ⟨b635_, 0, none⟩) ((ints y78_.key).length + 1) ((ints y78_.key).length + 1))))]), ((Value.iface 205 (vA #[])))]) (pre := [cl b37_ 188 [(vQ (rt b31_ W2)), (vI .i64 c2), (vQ b31_)], tr b31_ b31_ W2, clf b31_ 185 [(Value.nilIface), (Value.nilIface), (Value.nilIface), (Value.nilIface), (vP none), (vP none), (vP none), (vI .i64 0)]]) rfl (fun w => by kernel_rfl) (lcons rfl (lcons (congrArg (fun l => vA (List.toArray l)) (lcons (rfl : (Value.iface 168 kv80_) = ((Value.iface 168 kv80_))) (lcons (rfl : (Value.iface 168 (vS (some ⟨b635_, 0, none⟩) ((ints y78_.key).length + 1) ((ints y78_.key).length + 1))) = ((Value.iface 168 (vS (some ⟨b635_, 0, none⟩) ((ints y78_.key).length + 1) ((ints y78_.key).length + 1))))) rfl))) (lcons (rfl : (Value.iface 205 (vA #[])) = ((Value.iface 205 (vA #[])))) rfl))) cb147 (itInsert R651_ (List UInt8) BO b37_ b31_ c2 [(Value.nilIface), (Value.nilIface), (Value.nilIface), (Value.nilIface), (vP none), (vP none), (vP none), (vI .i64 0)] W2 168 168 205 kv80_ (vS (some ⟨b635_, 0, none⟩) ((ints y78_.key).length + 1) ((ints y78_.key).length + 1)) (vA #[]) y78_.lo y78_.hi (((hT2.mono hs652_)).ok) (⟨kv80_, ints y78_.key, rfl, (RS.mono hkv82_ hz_R_R651_), (u8s_ints y78_.key).symm⟩) (⟨_, ints y78_.key ++ [0], rfl, hr657_, by rw [hhi650_, u8s_snoc0]; rfl⟩) (by first | assumption | omega) (hT2.s)) H685_ ?_)
      rintro v675_ p689_ w686_ ⟨W676_, L1677_, L2678_, z679_, rfl, rfl, he680_, he681_, he682_, he683_, he684_⟩ S688_ H687_
      have S690_ := Same.trans S673_ S688_
      have hTn691_ : TI BO R651_ W676_ (pivls (l.take (k + 1)) 1) := by rw [pivls_yes hy79_ (by omega)]; exact TI.ins (hT2.mono hs652_) he680_ he681_ he682_ he683_ he684_
      refine wpList_nil (X_blkN (X_blkN (X_then (hK73_ _ _ ?_))))
      clear hK73_
      refine C_reg ?_
      refine sv (v := (vI .i64 ((k : Int) + 1))) (x_bin rfl rfl (ib_add (IntWalk.i64_in _ (by omega)))) ?_
      refine sv (v := (vI .i64 ((k : Int) + 1))) (x_move rfl) ?_
      refine wpList_nil (X_then ?_)
      have H692_ : Holds w686_ (tr b31_ b31_ W676_ :: tr b17_ b17_ W659_ :: ro R651_ :: cl b37_ 188 [(vQ (rt b31_ W676_)), (vI .i64 (c2 + 1)), (vQ b31_)] :: clf b31_ 185 [(Value.nilIface), (Value.nilIface), (Value.nilIface), (Value.nilIface), (vP none), (vP none), (vP none), (vI .i64 0)] :: cl b23_ 188 [(vQ (rt b17_ W659_)), (vI .i64 (c1 + 1)), (vQ b17_)] :: clf b17_ 185 [(Value.nilIface), (Value.nilIface), (Value.nilIface), (Value.nilIface), (vP none), (vP none), (vP none), (vI .i64 0)] :: F) := (Holds.pkF H687_ [2, 4, 0, 0, 0, 0, 0] 1 :)
      exact ⟨⟨R651_, k + 1, W659_, W676_, c1 + 1, c2 + 1⟩, ⟨_, congrArg (fun e => mkA 117 e []) (ch (ch (ch (ch (ch (ch (ch rfl rfl) rfl) rfl) rfl) rfl) rfl) (congrArg (vI .i64) ((by first | rfl | omega | (simp; done) | (simp; omega)) : (k : Int) + 1 = ((k + 1 : Nat) : Int)))), H692_, S690_, (hz_R_R651_), (by first | assumption | omega | exact rfl), (hTn674_), (hTn691_), (by first | assumption | omega | exact rfl)⟩, by first | omega | (dsimp only; omega) | (simp; omega)⟩
     ·have c648_fp : ¬ (y78_.kind = 2) := of_decide_eq_false c648_f
      refine C_seq (fun K693_ hK693_ => C_reg ?_)
      refine sv (v := (vB (decide (y78_.kind = 0)))) (x_bin rfl rfl rfl) ?_
      refine sv (v := (vB (decide (y78_.kind = 0)))) (x_assign rfl) ?_
      refine wpList_nil (X_then (hK693_ _ _ ?_))
      clear hK693_
      refine C_cond (b := decide (y78_.kind = 0)) rfl (fun c694_t => ?_) (fun c694_f => ?_)
      ·have c694_tp : y78_.kind = 0 := of_decide_eq_true c694_t
       refine C_reg ?_
       refine sv (v := (Value.iface 186 (vQ b23_))) (x_move rfl) ?_
       refine sv (v := (vA #[(Value.iface 168 kv80_), (Value.iface 168 (vS (some ⟨b635_, 0, none⟩) ((ints y78_.key).length + 1) ((ints y78_.key).length + 1)))])) (x_loadN (vs := [(Value.iface 168 kv80_), (Value.iface 168 (vS (some ⟨b635_, 0, none⟩) ((ints y78_.key).length + 1) ((ints y78_.key).length + 1)))]) rfl Try.underlying111 rfl z111 rfl (Rd.cells (Holds.rd H643_ 2 rfl) 0 rfl)) ?_
       refine sv (v := (vA #[])) (by kernel_rfl) ?_
       refine sv (v := (Value.iface 205 (vA #[]))) (by kernel_rfl) ?_
       have hhi695_ : y78_.hi = y78_.lo ++ [0] := PM.hi_pt (by omega)
       obtain ⟨R696_, hs697_, ⟨R698_, ha699_, hs700_⟩, H701_⟩ := Holds.gift H643_
       have hz_R_R696_ := Sub.trans' hsR1 hs697_
       have hr702_ : RS R696_ 1 (vS (some ⟨b635_, 0, none⟩) ((ints y78_.key).length + 1) ((ints y78_.key).length + 1)) (List.length (ints y78_.key ++ [0])) (bytesV (ints y78_.key ++ [0])) := (RS.set_ (cl_RSn (sz := 1) (k := (List.length (ints y78_.key) + 1)) ha699_ (Sub.rfl' _) (by simp [bytesV_len]) (by omega)) rfl (by simp)).mono hs700_
       have H713_ := ((Holds.bring (Holds.bring (Holds.bring (Holds.bring H701_ 7 rfl) 4 rfl) 7 rfl) 3 rfl) :)
       refine S_list (T_invoke (al := [(vQ b23_), (vA #[((Value.iface 168 kv80_)), ((Value.iface 168 (vS (some ⟨b635_, 0, none⟩) ((ints y78_.key).length + 1) ((ints y78_.key).length + 1))))]), ((Value.iface 205 (vA #[])))]) (pre := [cl b23_ 188 [(vQ (rt b17_ W1)), (vI .i64 c1), (vQ b17_)], tr b17_ b17_ W1, clf b17_ 185 [(Value.nilIface), (Value.nilIface), (Value.nilIface), (Value.nilIface), (vP none), (vP none), (vP none), (vI .i64 0)]]) rfl (fun w => by kernel_rfl) (lcons rfl (lcons (congrArg (fun l => vA (List.toArray l)) (lcons (rfl : (Value.iface 168 kv80_) = ((Value.iface 168 kv80_))) (lcons (rfl : (Value.iface 168 (vS (some ⟨b635_, 0, none⟩) ((ints y78_.key).length + 1) ((ints y78_.key).length + 1))) = ((Value.iface 168 (vS (some ⟨b635_, 0, none⟩) ((ints y78_.key).length + 1) ((ints y78_.key).length + 1))))) rfl))) (lcons (rfl : (Value.iface 205 (vA #[])) = ((Value.iface 205 (vA #[])))) rfl))) cb147 (itInsert R696_ (List UInt8) BO b23_ b17_ c1 [(Value.nilIface), (Value.nilIface), (Value.nilIface), (Value.nilIface), (vP none), (vP none), (vP none), (vI .i64 0)] W1 168 168 205 kv80_ (vS (some ⟨b635_, 0, none⟩) ((ints y78_.key).length + 1) ((ints y78_.key).length + 1)) (vA #[]) y78_.lo y78_.hi (((hT1.mono hs697_)).ok) (⟨kv80_, ints y78_.key, rfl, (RS.mono hkv82_ hz_R_R696_), (u8s_ints y78_.key).symm⟩) (⟨_, ints y78_.key ++ [0], rfl, hr702_, by rw [hhi695_, u8s_snoc0]; rfl⟩) (by first | assumption | omega) (hT1.s)) H713_ ?_)
       rintro v703_ p717_ w714_ ⟨W704_, L1705_, L2706_, z707_, rfl, rfl, he708_, he709_, he710_, he711_, he712_⟩ S716_ H715_
       have S718_ := Same.trans S645_ S716_
       have hTn719_ : TI BO R696_ W704_ (pivls (l.take (k + 1)) 0) := by rw [pivls_yes hy79_ (by omega)]; exact TI.ins (hT1.mono hs697_) he708_ he709_ he710_ he711_ he712_
       refine wpList_nil (X_blkN (X_blkN (X_then (hK73_ _ _ ?_))))
       clear hK73_
       refine C_reg ?_
       refine sv (v := (vI .i64 ((k : Int) + 1))) (x_bin rfl rfl (ib_add (IntWalk.i64_in _ (by omega)))) ?_
       refine sv (v := (vI .i64 ((k : Int) + 1))) (x_move rfl) ?_
       refine wpList_nil (X_then ?_)
       have H720_ : Holds w714_ (tr b31_ b31_ W2 :: tr b17_ b17_ W704_ :: ro R696_ :: cl b37_ 188 [(vQ (rt b31_ W2)), (vI .i64 c2), (vQ b31_)] :: clf b31_ 185 [(Value.nilIface), (Value.nilIface), (Value.nilIface), (Value.nilIface), (vP none), (vP none), (vP none), (vI .i64 0)] :: cl b23_ 188 [(vQ (rt b17_ W704_)), (vI .i64 (c1 + 1)), (vQ b17_)] :: clf b17_ 185 [(Value.nilIface), (Value.nilIface), (Value.nilIface), (Value.nilIface), (vP none), (vP none), (vP none), (vI .i64 0)] :: F) := (Holds.pkF H715_ [5, 2, 0, 3, 3, 0, 0] 1 :)
       exact ⟨⟨R696_, k + 1, W704_, W2, c1 + 1, c2⟩, ⟨_, congrArg (fun e => mkA 117 e []) (ch (ch (ch (ch (ch (ch (ch rfl rfl) rfl) rfl) rfl) rfl) rfl) (congrArg (vI .i64) ((by first | rfl | omega | (simp; done) | (simp; omega)) : (k : Int) + 1 = ((k + 1 : Nat) : Int)))), H720_, S718_, (hz_R_R696_), (by first | assumption | omega | exact rfl), (hTn719_), ((by rw [pivls_no hy79_ (by omega)]; exact (hT2.mono hs697_))), (by first | assumption | omega | exact rfl)⟩, by first | omega | (dsimp only; omega) | (simp; omega)⟩
      ·have c694_fp : ¬ (y78_.kind = 0) := of_decide_eq_false c694_f
       refine C_seq (fun K721_ hK721_ => C_reg ?_)
       refine sv (v := (vB (decide (y78_.kind = 1)))) (x_bin rfl rfl rfl) ?_
       refine sv (v := (vB (decide (y78_.kind = 1)))) (x_assign rfl) ?_
       refine wpList_nil (X_then (hK721_ _ _ ?_))
       clear hK721_
       refine C_cond (b := decide (y78_.kind = 1)) rfl (fun c722_t => ?_) (fun c722_f => ?_)
       ·have c722_tp : y78_.kind = 1 := of_decide_eq_true c722_t
        refine C_reg ?_
        refine sv (v := (Value.iface 186 (vQ b37_))) (x_move rfl) ?_
        refine sv (v := (vA #[(Value.iface 168 kv80_), (Value.iface 168 (vS (some ⟨b635_, 0, none⟩) ((ints y78_.key).length + 1) ((ints y78_.key).length + 1)))])) (x_loadN (vs := [(Value.iface 168 kv80_), (Value.iface 168 (vS (some ⟨b635_, 0, none⟩) ((ints y78_.key).length + 1) ((ints y78_.key).length + 1)))]) rfl Try.underlying111 rfl z111 rfl (Rd.cells (Holds.rd H643_ 2 rfl) 0 rfl)) ?_
        refine sv (v := (vA #[])) (by kernel_rfl) ?_
        refine sv (v := (Value.iface 205 (vA #[]))) (by kernel_rfl) ?_
        have hhi723_ : y78_.hi = y78_.lo ++ [0] := PM.hi_pt (by omega)
        obtain ⟨R724_, hs725_, ⟨R726_, ha727_, hs728_⟩, H729_⟩ := Holds.gift H643_
        have hz_R_R724_ := Sub.trans' hsR1 hs725_
        have hr730_ : RS R724_ 1 (vS (some ⟨b635_, 0, none⟩) ((ints y78_.key).length + 1) ((ints y78_.key).length + 1)) (List.length (ints y78_.key ++ [0])) (bytesV (ints y78_.key ++ [0])) := (RS.set_ (cl_RSn (sz := 1) (k := (List.length (ints y78_.key) + 1)) ha727_ (Sub.rfl' _) (by simp [bytesV_len]) (by omega)) rfl (by simp)).mono hs728_
        have H741_ := ((Holds.bring (Holds.bring (Holds.bring (Holds.bring H729_ 5 rfl) 3 rfl) 5 rfl) 3 rfl) :)
        refine S_list (T_invoke (al := [(vQ b37_), (vA #[((Value.iface 168 kv80_)), ((Value.iface 168 (vS (some ⟨b635_, 0, none⟩) ((ints y78_.key).length + 1) ((ints y78_.key).length + 1))))]), ((Value.iface 205 (vA #[])))]) (pre := [cl b37_ 188 [(vQ (rt b31_ W2)), (vI .i64 c2), (vQ b31_)], tr b31_ b31_ W2, clf b31_ 185 [(Value.nilIface), (Value.nilIface), (Value.nilIface), (Value.nilIface), (vP none), (vP none), (vP none), (vI .i64 0)]]) rfl (fun w => by kernel_rfl) (lcons rfl (lcons (congrArg (fun l => vA (List.toArray l)) (lcons (rfl : (Value.iface 168 kv80_) = ((Value.iface 168 kv80_))) (lcons (rfl : (Value.iface 168 (vS (some ⟨b635_, 0, none⟩) ((ints y78_.key).length + 1) ((ints y78_.key).length + 1))) = ((Value.iface 168 (vS (some ⟨b635_, 0, none⟩) ((ints y78_.key).length + 1) ((ints y78_.key).length + 1))))) rfl))) (lcons (rfl : (Value.iface 205 (vA #[])) = ((Value.iface 205 (vA #[])))) rfl))) cb147 (itInsert R724_ (List UInt8) BO b37_ b31_ c2 [(Value.nilIface), (Value.nilIface), (Value.nilIface), (Value.nilIface), (vP none), (vP none), (vP none), (vI .i64 0)] W2 168 168 205 kv80_ (vS (some ⟨b635_, 0, none⟩) ((ints y78_.key).length + 1) ((ints y78_.key).length + 1)) (vA #[]) y78_.lo y78_.hi (((hT2.mono hs725_)).ok) (⟨kv80_, ints y78_.key, rfl, (RS.mono hkv82_ hz_R_R724_), (u8s_ints y78_.key).symm⟩) (⟨_, ints y78_.key ++ [0], rfl, hr730_, by rw [hhi723_, u8s_snoc0]; rfl⟩) (by first | assumption | omega) (hT2.s)) H741_ ?_)
        rintro v731_ p745_ w742_ ⟨W732_, L1733_, L2734_, z735_, rfl, rfl, he736_, he737_, he738_, he739_, he740_⟩ S744_ H743_
        have S746_ := Same.trans S645_ S744_
        have hTn747_ : TI BO R724_ W732_ (pivls (l.take (k + 1)) 1) := by rw [pivls_yes hy79_ (by omega)]; exact TI.ins (hT2.mono hs725_) he736_ he737_ he738_ he739_ he740_
        refine wpList_nil (X_blkN (X_blkN (X_then (hK73_ _ _ ?_))))
        clear hK73_
        refine C_reg ?_
        refine sv (v := (vI .i64 ((k : Int) + 1))) (x_bin rfl rfl (ib_add (IntWalk.i64_in _ (by omega)))) ?_
        refine sv (v := (vI .i64 ((k : Int) + 1))) (x_move rfl) ?_
        refine wpList_nil (X_then ?_)
        have H748_ : Holds w742_ (tr b31_ b31_ W732_ :: tr b17_ b17_ W1 :: ro R724_ :: cl b37_ 188 [(vQ (rt b31_ W732_)), (vI .i64 (c2 + 1)), (vQ b31_)] :: clf b31_ 185 [(Value.nilIface), (Value.nilIface), (Value.nilIface), (Value.nilIface), (vP none), (vP none), (vP none), (vI .i64 0)] :: cl b23_ 188 [(vQ (rt b17_ W1)), (vI .i64 c1), (vQ b17_)] :: clf b17_ 185 [(Value.nilIface), (Value.nilIface), (Value.nilIface), (Value.nilIface), (vP none), (vP none), (vP none), (vI .i64 0)] :: F) := (Holds.pkF H743_ [2, 4, 0, 0, 0, 1, 1] 1 :)
        exact ⟨⟨R724_, k + 1, W1, W732_, c1, c2 + 1⟩, ⟨_, congrArg (fun e => mkA 117 e []) (ch (ch (ch (ch (ch (ch (ch rfl rfl) rfl) rfl) rfl) rfl) rfl) (congrArg (vI .i64) ((by first | rfl | omega | (simp; done) | (simp; omega)) : (k : Int) + 1 = ((k + 1 : Nat) : Int)))), H748_, S746_, (hz_R_R724_), (by first | assumption | omega | exact rfl), ((by rw [pivls_no hy79_ (by omega)]; exact (hT1.mono hs725_))), (hTn747_), (by first | assumption | omega | exact rfl)⟩, by first | omega | (dsimp only; omega) | (simp; omega)⟩
       ·have c722_fp : ¬ (y78_.kind = 1) := of_decide_eq_false c722_f
        refine C_skip (X_blkN (X_blkN (X_then (hK73_ _ _ ?_))))
        clear hK73_
        refine C_reg ?_
        refine sv (v := (vI .i64 ((k : Int) + 1))) (x_bin rfl rfl (ib_add (IntWalk.i64_in _ (by omega)))) ?_
        refine sv (v := (vI .i64 ((k : Int) + 1))) (x_move rfl) ?_
        refine wpList_nil (X_then ?_)
        have H749_ : Holds w642_ (tr b31_ b31_ W2 :: tr b17_ b17_ W1 :: ro R1 :: cl b37_ 188 [(vQ (rt b31_ W2)), (vI .i64 c2), (vQ b31_)] :: clf b31_ 185 [(Value.nilIface), (Value.nilIface), (Value.nilIface), (Value.nilIface), (vP none), (vP none), (vP none), (vI .i64 0)] :: cl b23_ 188 [(vQ (rt b17_ W1)), (vI .i64 c1), (vQ b17_)] :: clf b17_ 185 [(Value.nilIface), (Value.nilIface), (Value.nilIface), (Value.nilIface), (vP none), (vP none), (vP none), (vI .i64 0)] :: F) := (Holds.pkF H643_ [3, 3, 0, 2, 2, 2, 2] 2 :)
        exact ⟨⟨R1, k + 1, W1, W2, c1, c2⟩, ⟨_, congrArg (fun e => mkA 117 e []) (ch (ch (ch (ch (ch (ch (ch rfl rfl) rfl) rfl) rfl) rfl) rfl) (congrArg (vI .i64) ((by first | rfl | omega | (simp; done) | (simp; omega)) : (k : Int) + 1 = ((k + 1 : Nat) : Int)))), H749_, S645_, (hsR1), (by first | assumption | omega | exact rfl), ((by rw [pivls_no hy79_ (by omega)]; exact hT1)), ((by rw [pivls_no hy79_ (by omega)]; exact hT2)), (by first | assumption | omega | exact rfl)⟩, by first | omega | (dsimp only; omega) | (simp; omega)⟩
 ·have c72_fp : ¬ ((k : Int) < ((List.length C) : Int)) := of_decide_eq_false c72_f
  refine C_exit (X_thenX (X_thenX (X_blkHit ?_)))
  refine (X_blkN (X_then (hK47_ _ _ ?_)))
  clear hK47_
  refine C_reg ?_
  refine sv (v := (vI .i64 1)) (x_bin rfl rfl (by rfl)) ?_
  refine sv (v := (vI .i64 1)) (x_move rfl) ?_
  refine wpList_nil (X_then ?_)
  refine hK44_ _ _ ?_
  clear hK44_
  refine C_rounds (fun K750_ hK750_ => ?_)
  refine C_seq (fun K751_ hK751_ => C_reg ?_)
  refine sv (v := (vB false)) (x_bin rfl rfl rfl) ?_
  refine wpList_nil (X_then (hK751_ _ _ ?_))
  clear hK751_
  refine C_seq (fun K752_ hK752_ => ?_)
  refine C_condF rfl ?_
  refine C_exit (X_thenX (X_thenX (X_blkHit ?_)))
  refine (X_then (hK42_ _ _ ?_))
  clear hK42_
  refine C_seq (fun K753_ hK753_ => C_reg ?_)
  refine sv (v := (Value.iface 186 (vQ b23_))) (x_move rfl) ?_
  refine sv (v := (Value.iface 186 (vQ b37_))) (x_move rfl) ?_
  refine sv (v := (vA #[(Value.iface 186 (vQ b23_)), (Value.iface 186 (vQ b37_))])) (by kernel_rfl) ?_
  refine S_list (T_box (v := (vA #[(Value.iface 186 (vQ b23_)), (Value.iface 186 (vQ b37_))])) rfl H68_ ?_)
  intro b754_ w755_ S757_ H756_
  have S758_ := Same.trans S69_ S757_
  refine sv (v := (vQ b754_)) (x_assign rfl) ?_
  refine wpList_nil (X_then (hK753_ _ _ ?_))
  clear hK753_
  refine C_ret ?_
  refine R_any (v := (vQ b754_)) (run_results1 rfl rfl) ?_
  have H759_ : Holds w755_ (ro R1 :: cl b754_ 250 [(Value.iface 186 (vQ b23_)), (Value.iface 186 (vQ b37_))] :: cl b23_ 188 [(vQ (rt b17_ W1)), (vI .i64 c1), (vQ b17_)] :: tr b17_ b17_ W1 :: clf b17_ 185 [(Value.nilIface), (Value.nilIface), (Value.nilIface), (Value.nilIface), (vP none), (vP none), (vP none), (vI .i64 0)] :: cl b37_ 188 [(vQ (rt b31_ W2)), (vI .i64 c2), (vQ b31_)] :: tr b31_ b31_ W2 :: clf b31_ 185 [(Value.nilIface), (Value.nilIface), (Value.nilIface), (Value.nilIface), (vP none), (vP none), (vP none), (vI .i64 0)] :: F) := (Holds.pkF H756_ [3, 0, 4, 1, 3, 1, 0, 0] 0 :)
  exact ⟨R1, _, _, rfl, hsR1, ⟨b754_, b23_, b37_, b17_, b31_, c1, c2, [(Value.nilIface), (Value.nilIface), (Value.nilIface), (Value.nilIface), (vP none), (vP none), (vP none), (vI .i64 0)], [(Value.nilIface), (Value.nilIface), (Value.nilIface), (Value.nilIface), (vP none), (vP none), (vP none), (vI .i64 0)], W1, W2, rfl, rfl, (by rw [List.take_of_length_le (by omega)] at hT1; exact hT1), (by rw [List.take_of_length_le (by omega)] at hT2; exact hT2)⟩, S758_, H759_⟩
end Go.Proofs.Ytlnihndjepjagaa
set_option linter.unusedVariables false
set_option linter.unusedSimpArgs false
namespace Go.Proofs.Ytlnihndjepjagaa
open Go Go.RowKit Gw
open Go.Value renaming int → vI, bool → vB, slice → vS, pointer → vP, agg → vA, tuple → vT

set_option maxHeartbeats 16000000 in
theorem zzPermits (R : HP) (va : Option Addr) (vc : Nat) (C : List Nat) (l : List PM) (x y : Value) (q : PM) (kind : Int) (hv : RS R 1 (.slice va (List.length C) vc) (List.length C) (C.map pv)) (hC : All2 (PermAt R) C l) (hl : ∀ p ∈ l, PmOk p) (hn : l.length ≤ 1000) (hx : RS R 1 x (List.length (ints q.key)) (bytesV (ints q.key))) (hy : RS R 1 y (List.length (ints q.end_)) (bytesV (ints q.end_))) (hq : PmOk q) (hk : kind = 0 ∨ kind = 1) :
    Tri Try.prog 57 #[(vS va (List.length C) vc), x, y, (vI .i32 kind)] R [] (fun v__ post__ => v__ = (vB (permits l q kind)) ∧ post__ = []) := by
 have hy1_ := ints_length q.key
 have hy2_ := ints_length q.end_
 have hq1_ := hq.s1
 have hq2_ := hq.s2
 refine Tri.into (n := 26) (al := [(vS va (List.length C) vc), x, y, (vI .i32 kind)]) Try.func57 rfl Try.ntmps57 rfl rfl fun w F H => ?_
 refine C_seq (fun K1_ hK1_ => C_reg ?_)
 refine sv (v := (vB false)) (x_assign rfl) ?_
 refine wpList_nil (X_then (hK1_ _ _ ?_))
 clear hK1_
 refine C_seq (fun K2_ hK2_ => C_reg ?_)
 refine sv (v := (vS va (List.length C) vc)) (x_move rfl) ?_
 refine sv (v := (vA #[(vS va (List.length C) vc)])) (by kernel_rfl) ?_
 refine sv (v := (Value.iface 177 (vA #[(vS va (List.length C) vc)]))) (by kernel_rfl) ?_
 refine S_list (T_callG (al := [(Value.iface 177 (vA #[(vS va (List.length C) vc)])), (Value.string (ByteArray.mk #[117]))]) (pre := []) rfl rfl cb78 (gmPerms R va vc C l (ByteArray.mk #[117]) hv (by first | assumption | omega) (by first | assumption | omega) (by first | assumption | omega)) H ?_)
 rintro R4_ v5_ p22_ w19_ hs3_ ⟨u6_, t17_, t28_, s19_, s210_, c111_, c212_, z113_, z214_, W115_, W216_, rfl, rfl, he17_, he18_⟩ S21_ H20_
 have S23_ := Same.trans (Same.refl w) S21_
 refine sv (v := (vQ u6_)) (x_assign rfl) ?_
 refine wpList_nil (X_then (hK2_ _ _ ?_))
 clear hK2_
 refine C_seq (fun K24_ hK24_ => ?_)
 refine C_seq (fun K25_ hK25_ => C_reg ?_)
 refine sv (v := y) (x_move rfl) ?_
 refine sv (v := (vI .i64 ((List.length (ints q.end_)) : Int))) (x_lenRS rfl (RS.mono hy hs3_) Try.underlying122) ?_
 refine sv (v := (vB (decide (((List.length (ints q.end_)) : Int) = 0)))) (x_bin rfl rfl rfl) ?_
 refine wpList_nil (X_then (hK25_ _ _ ?_))
 clear hK25_
 refine C_cond (b := decide (((List.length (ints q.end_)) : Int) = 0)) rfl (fun c26_t => ?_) (fun c26_f => ?_)
 ·have c26_tp : ((List.length (ints q.end_)) : Int) = 0 := of_decide_eq_true c26_t
  refine C_seq (fun K27_ hK27_ => C_reg ?_)
  refine sv (v := (vQ u6_)) (x_move rfl) ?_
  refine sv (v := x) (x_move rfl) ?_
  refine sv (v := (vI .i32 kind)) (x_move rfl) ?_
  refine S_list (T_callW (al := [(vP none), (vQ u6_), x, (vI .i32 kind)]) rfl rfl cb79 (Calls.into (n := 30) (al := [(vP none), (vQ u6_), x, (vI .i32 kind)]) Try.func79 rfl Try.ntmps79 rfl rfl ?_))
  refine C_seq (fun K28_ hK28_ => C_reg ?_)
  refine sv (v := (vB false)) (x_assign rfl) ?_
  refine wpList_nil (X_then (hK28_ _ _ ?_))
  clear hK28_
  refine C_seq (fun K29_ hK29_ => C_reg ?_)
  refine sv (v := x) (x_move rfl) ?_
  refine S_list (T_call (al := [x]) (pre := []) rfl rfl cb102 (bPoint R4_ x (ints q.key) (RS.mono hx hs3_) (by first | assumption | omega)) H20_ ?_)
  rintro v30_ p35_ w32_ ⟨b31_, rfl, rfl⟩ S34_ H33_
  have S36_ := Same.trans S23_ S34_
  refine S_list (T_alloc z111 H33_ ?_)
  intro b37_ w38_ S40_ H39_
  have S41_ := Same.trans S36_ S40_
  refine S_list0 (T_storeN (vs := [(Value.iface 168 x), (Value.iface 168 (vS (some ⟨b31_, 0, none⟩) ((ints q.key).length + 1) ((ints q.key).length + 1)))]) rfl rfl z111 rfl (by simp [Value.oneCell']) H39_ 0 rfl (Nat.le_of_ble_eq_true (by rfl)) ?_)
  intro w42_ S44_ H43_
  have S45_ := Same.trans S41_ S44_
  refine wpList_nil (X_then (hK29_ _ _ ?_))
  clear hK29_
  refine C_seq (fun K46_ hK46_ => ?_)
  refine C_seq (fun K47_ hK47_ => C_reg ?_)
  refine sv (v := (vI .i32 kind)) (x_move rfl) ?_
  refine wpList_nil (X_then (hK47_ _ _ ?_))
  clear hK47_
  refine C_block ?_
  refine C_seq (fun K48_ hK48_ => C_reg ?_)
  refine sv (v := (vB (decide (kind = 0)))) (x_bin rfl rfl rfl) ?_
  refine sv (v := (vB (decide (kind = 0)))) (x_assign rfl) ?_
  refine wpList_nil (X_then (hK48_ _ _ ?_))
  clear hK48_
  refine C_cond (b := decide (kind = 0)) rfl (fun c49_t => ?_) (fun c49_f => ?_)
  ·have c49_tp : kind = 0 := of_decide_eq_true c49_t
   refine C_seq (fun K50_ hK50_ => ?_)
   refine A_start (S := fun w => Rd b37_ [(Value.iface 168 x), (Value.iface 168 (vS (some ⟨b31_, 0, none⟩) ((ints q.key).length + 1) ((ints q.key).length + 1)))] w ∧ Rd u6_ [(Value.iface 186 (vQ t17_)), (Value.iface 186 (vQ t28_))] w ∧ Rd t17_ [(vQ (rt s19_ W115_)), (vI .i64 c111_), (vQ s19_)] w ∧ RtRd w (rt s19_ W115_) (rmx W115_) ∧ Rd t28_ [(vQ (rt s210_ W216_)), (vI .i64 c212_), (vQ s210_)] w ∧ RtRd w (rt s210_ W216_) (rmx W216_) ∧ Sub R4_ (hp w)) (N := 7) foll rfl rfl ?_
   have H51_ := Holds.drew_ H43_
   have hq52_ := And.intro (Holds.rd H51_ 0 rfl) (And.intro (Holds.rd H51_ 3 rfl) (And.intro (Holds.rd H51_ 4 rfl) (And.intro (Holds.tr_rd H51_ 5 rfl 6 rfl) (And.intro (Holds.rd H51_ 7 rfl) (And.intro (Holds.tr_rd H51_ 8 rfl 9 rfl) ((Holds.ro_at H51_ 1 rfl)))))))
   refine A_tk 0 (v := (vQ u6_)) rfl (by kernel_rfl) (fun w hS => x_move rfl) hq52_ ?_
   refine A_tk 1 (v := (vQ u6_)) rfl (by kernel_rfl) (fun w hS => by kernel_rfl) hq52_ ?_
   refine A_tk 2 (v := (vQ u6_)) rfl (by kernel_rfl) (fun w hS => by kernel_rfl) hq52_ ?_
   refine A_tk 3 (v := (Value.iface 186 (vQ t17_))) rfl (by kernel_rfl) (fun w hS => x_load1 rfl Try.underlying101 rfl (hS.2.1 0 (Value.iface 186 (vQ t17_)) rfl)) hq52_ ?_
   refine A_tk 4 (v := (vA #[(Value.iface 168 x), (Value.iface 168 (vS (some ⟨b31_, 0, none⟩) ((ints q.key).length + 1) ((ints q.key).length + 1)))])) rfl (by kernel_rfl) (fun w hS => x_loadN (vs := [(Value.iface 168 x), (Value.iface 168 (vS (some ⟨b31_, 0, none⟩) ((ints q.key).length + 1) ((ints q.key).length + 1)))]) rfl Try.underlying111 rfl z111 rfl (Rd.cells hS.1 0 rfl)) hq52_ ?_
   refine A_ready (i := 5) (rs := []) (by kernel_rfl) ?_
   refine AllR.cons ?_ AllR.nil
   have H53_ := ((Holds.bring (Holds.bring H51_ 2 rfl) 2 rfl) :)
   obtain ⟨R54_, hs55_, ⟨R56_, ha57_, hs58_⟩, H59_⟩ := Holds.gift H53_
   have hz_R_R54_ := Sub.trans' hs3_ hs55_
   have hr60_ : RS R54_ 1 (vS (some ⟨b31_, 0, none⟩) ((ints q.key).length + 1) ((ints q.key).length + 1)) (List.length (ints q.key ++ [0])) (bytesV (ints q.key ++ [0])) := (RS.set_ (cl_RSn (sz := 1) (k := (List.length (ints q.key) + 1)) ha57_ (Sub.rfl' _) (by simp [bytesV_len]) (by omega)) rfl (by simp)).mono hs58_
   have H62_ := ((Holds.bring (Holds.bring (Holds.bring (Holds.bring H59_ 5 rfl) 5 rfl) 5 rfl) 3 rfl) :)
   refine A_op (ls' := #[true, true, true, true, true, true, false]) rfl (by kernel_rfl) (T_invoke (al := [(vQ t17_), (vA #[((Value.iface 168 x)), ((Value.iface 168 (vS (some ⟨b31_, 0, none⟩) ((ints q.key).length + 1) ((ints q.key).length + 1))))])]) (pre := [cl t17_ 188 [(vQ (rt s19_ W115_)), (vI .i64 c111_), (vQ s19_)], tr s19_ s19_ W115_, clf s19_ 185 z113_]) rfl (fun w => by kernel_rfl) (lcons rfl (lcons (congrArg (fun l => vA (List.toArray l)) (lcons (rfl : (Value.iface 168 x) = ((Value.iface 168 x))) (lcons (rfl : (Value.iface 168 (vS (some ⟨b31_, 0, none⟩) ((ints q.key).length + 1) ((ints q.key).length + 1))) = ((Value.iface 168 (vS (some ⟨b31_, 0, none⟩) ((ints q.key).length + 1) ((ints q.key).length + 1))))) rfl))) rfl)) cb148 (itIsect R54_ (List UInt8) BO t17_ s19_ c111_ z113_ W115_ 168 168 x (vS (some ⟨b31_, 0, none⟩) ((ints q.key).length + 1) ((ints q.key).length + 1)) q.lo q.hi (((he17_.mono hs55_)).ok.1) (⟨x, ints q.key, rfl, (RS.mono hx hz_R_R54_), (u8s_ints q.key).symm⟩) (⟨_, ints q.key ++ [0], rfl, hr60_, by rw [PM.hi_pt (by omega), u8s_snoc0]; rfl⟩)) H62_ ?_)
   rintro v61_ p66_ w63_ ⟨rfl, rfl⟩ S65_ H64_
   have S67_ := Same.trans (Same.trans S45_ (Same.drew _)) S65_
   refine ⟨⟨Holds.rd H64_ 4 rfl, Holds.rd H64_ 5 rfl, Holds.rd H64_ 1 rfl, Holds.tr_rd H64_ 2 rfl 3 rfl, Holds.rd H64_ 6 rfl, Holds.tr_rd H64_ 7 rfl 8 rfl, (Sub.trans' hs55_ (Holds.ro_at H64_ 0 rfl))⟩, ?_⟩
   have hq68_ := And.intro (Holds.rd H64_ 4 rfl) (And.intro (Holds.rd H64_ 5 rfl) (And.intro (Holds.rd H64_ 1 rfl) (And.intro (Holds.tr_rd H64_ 2 rfl 3 rfl) (And.intro (Holds.rd H64_ 6 rfl) (And.intro (Holds.tr_rd H64_ 7 rfl 8 rfl) ((Sub.trans' hs55_ (Holds.ro_at H64_ 0 rfl))))))))
   refine A_tk 6 (v := (vB (isect BO q.lo q.hi W115_))) rfl (by kernel_rfl) (fun w hS => x_assign rfl) hq68_ ?_
   refine A_done (by kernel_rfl) ?_
   refine (X_then (hK50_ _ _ ?_))
   clear hK50_
   refine C_ret (X_blkR (X_thenR ?_))
   refine R_any (v := (vB (isect BO q.lo q.hi W115_))) (run_results1 rfl rfl) ⟨_, rfl, ?_⟩
   refine sv (v := (vB (isect BO q.lo q.hi W115_))) (x_assign rfl) ?_
   refine wpList_nil (X_then (hK27_ _ _ ?_))
   clear hK27_
   refine C_ret (X_thenR ?_)
   refine R_any (v := (vB (isect BO q.lo q.hi W115_))) (run_results1 rfl rfl) ?_
   have H69_ : Holds w63_ (ro R :: cl t17_ 188 [(vQ (rt s19_ W115_)), (vI .i64 c111_), (vQ s19_)] :: tr s19_ s19_ W115_ :: clf s19_ 185 z113_ :: cl b37_ 111 [(Value.iface 168 x), (Value.iface 168 (vS (some ⟨b31_, 0, none⟩) ((ints q.key).length + 1) ((ints q.key).length + 1)))] :: cl u6_ 250 [(Value.iface 186 (vQ t17_)), (Value.iface 186 (vQ t28_))] :: cl t28_ 188 [(vQ (rt s210_ W216_)), (vI .i64 c212_), (vQ s210_)] :: tr s210_ s210_ W216_ :: clf s210_ 185 z214_ :: F) := Holds.ro_less H64_ hz_R_R54_
   have H70_ : Holds w63_ (ro R :: F) := (Holds.pkF H69_ [0] 8 :)
   exact ⟨_, _, rfl, ⟨(congrArg vB ((by rw [show kind = 0 by omega]; exact permits_pt he17_ hl hq (by omega)) : (isect BO q.lo q.hi W115_) = (permits l q kind))), rfl⟩, S67_, H70_⟩
  ·have c49_fp : ¬ (kind = 0) := of_decide_eq_false c49_f
   refine C_seq (fun K71_ hK71_ => C_reg ?_)
   refine sv (v := (vB (decide (kind = 1)))) (x_bin rfl rfl rfl) ?_
   refine sv (v := (vB (decide (kind = 1)))) (x_assign rfl) ?_
   refine wpList_nil (X_then (hK71_ _ _ ?_))
   clear hK71_
   refine C_cond (b := decide (kind = 1)) rfl (fun c72_t => ?_) (fun c72_f => ?_)
   ·have c72_tp : kind = 1 := of_decide_eq_true c72_t
    refine C_seq (fun K73_ hK73_ => ?_)
    refine A_start (S := fun w => Rd b37_ [(Value.iface 168 x), (Value.iface 168 (vS (some ⟨b31_, 0, none⟩) ((ints q.key).length + 1) ((ints q.key).length + 1)))] w ∧ Rd u6_ [(Value.iface 186 (vQ t17_)), (Value.iface 186 (vQ t28_))] w ∧ Rd t17_ [(vQ (rt s19_ W115_)), (vI .i64 c111_), (vQ s19_)] w ∧ RtRd w (rt s19_ W115_) (rmx W115_) ∧ Rd t28_ [(vQ (rt s210_ W216_)), (vI .i64 c212_), (vQ s210_)] w ∧ RtRd w (rt s210_ W216_) (rmx W216_) ∧ Sub R4_ (hp w)) (N := 7) foll rfl rfl ?_
    have H74_ := Holds.drew_ H43_
    have hq75_ := And.intro (Holds.rd H74_ 0 rfl) (And.intro (Holds.rd H74_ 3 rfl) (And.intro (Holds.rd H74_ 4 rfl) (And.intro (Holds.tr_rd H74_ 5 rfl 6 rfl) (And.intro (Holds.rd H74_ 7 rfl) (And.intro (Holds.tr_rd H74_ 8 rfl 9 rfl) ((Holds.ro_at H74_ 1 rfl)))))))
    refine A_tk 0 (v := (vQ u6_)) rfl (by kernel_rfl) (fun w hS => x_move rfl) hq75_ ?_
    refine A_tk 1 (v := (vQ u6_)) rfl (by kernel_rfl) (fun w hS => by kernel_rfl) hq75_ ?_
    refine A_tk 2 (v := (vP (some ⟨u6_, 1, none⟩))) rfl (by kernel_rfl) (fun w hS => by kernel_rfl) hq75_ ?_
    refine A_tk 3 (v := (Value.iface 186 (vQ t28_))) rfl (by kernel_rfl) (fun w hS => x_load1 rfl Try.underlying101 rfl (hS.2.1 1 (Value.iface 186 (vQ t28_)) rfl)) hq75_ ?_
    refine A_tk 4 (v := (vA #[(Value.iface 168 x), (Value.iface 168 (vS (some ⟨b31_, 0, none⟩) ((ints q.key).length + 1) ((ints q.key).length + 1)))])) rfl (by kernel_rfl) (fun w hS => x_loadN (vs := [(Value.iface 168 x), (Value.iface 168 (vS (some ⟨b31_, 0, none⟩) ((ints q.key).length + 1) ((ints q.key).length + 1)))]) rfl Try.underlying111 rfl z111 rfl (Rd.cells hS.1 0 rfl)) hq75_ ?_
    refine A_ready (i := 5) (rs := []) (by kernel_rfl) ?_
    refine AllR.cons ?_ AllR.nil
    have H76_ := ((Holds.bring (Holds.bring H74_ 2 rfl) 2 rfl) :)
    obtain ⟨R77_, hs78_, ⟨R79_, ha80_, hs81_⟩, H82_⟩ := Holds.gift H76_
    have hz_R_R77_ := Sub.trans' hs3_ hs78_
    have hr83_ : RS R77_ 1 (vS (some ⟨b31_, 0, none⟩) ((ints q.key).length + 1) ((ints q.key).length + 1)) (List.length (ints q.key ++ [0])) (bytesV (ints q.key ++ [0])) := (RS.set_ (cl_RSn (sz := 1) (k := (List.length (ints q.key) + 1)) ha80_ (Sub.rfl' _) (by simp [bytesV_len]) (by omega)) rfl (by simp)).mono hs81_
    have H85_ := ((Holds.bring (Holds.bring (Holds.bring (Holds.bring H82_ 8 rfl) 8 rfl) 8 rfl) 3 rfl) :)
    refine A_op (ls' := #[true, true, true, true, true, true, false]) rfl (by kernel_rfl) (T_invoke (al := [(vQ t28_), (vA #[((Value.iface 168 x)), ((Value.iface 168 (vS (some ⟨b31_, 0, none⟩) ((ints q.key).length + 1) ((ints q.key).length + 1))))])]) (pre := [cl t28_ 188 [(vQ (rt s210_ W216_)), (vI .i64 c212_), (vQ s210_)], tr s210_ s210_ W216_, clf s210_ 185 z214_]) rfl (fun w => by kernel_rfl) (lcons rfl (lcons (congrArg (fun l => vA (List.toArray l)) (lcons (rfl : (Value.iface 168 x) = ((Value.iface 168 x))) (lcons (rfl : (Value.iface 168 (vS (some ⟨b31_, 0, none⟩) ((ints q.key).length + 1) ((ints q.key).length + 1))) = ((Value.iface 168 (vS (some ⟨b31_, 0, none⟩) ((ints q.key).length + 1) ((ints q.key).length + 1))))) rfl))) rfl)) cb148 (itIsect R77_ (List UInt8) BO t28_ s210_ c212_ z214_ W216_ 168 168 x (vS (some ⟨b31_, 0, none⟩) ((ints q.key).length + 1) ((ints q.key).length + 1)) q.lo q.hi (((he18_.mono hs78_)).ok.1) (⟨x, ints q.key, rfl, (RS.mono hx hz_R_R77_), (u8s_ints q.key).symm⟩) (⟨_, ints q.key ++ [0], rfl, hr83_, by rw [PM.hi_pt (by omega), u8s_snoc0]; rfl⟩)) H85_ ?_)
    rintro v84_ p89_ w86_ ⟨rfl, rfl⟩ S88_ H87_
    have S90_ := Same.trans (Same.trans S45_ (Same.drew _)) S88_
    refine ⟨⟨Holds.rd H87_ 4 rfl, Holds.rd H87_ 5 rfl, Holds.rd H87_ 6 rfl, Holds.tr_rd H87_ 7 rfl 8 rfl, Holds.rd H87_ 1 rfl, Holds.tr_rd H87_ 2 rfl 3 rfl, (Sub.trans' hs78_ (Holds.ro_at H87_ 0 rfl))⟩, ?_⟩
    have hq91_ := And.intro (Holds.rd H87_ 4 rfl) (And.intro (Holds.rd H87_ 5 rfl) (And.intro (Holds.rd H87_ 6 rfl) (And.intro (Holds.tr_rd H87_ 7 rfl 8 rfl) (And.intro (Holds.rd H87_ 1 rfl) (And.intro (Holds.tr_rd H87_ 2 rfl 3 rfl) ((Sub.trans' hs78_ (Holds.ro_at H87_ 0 rfl))))))))
    refine A_tk 6 (v := (vB (isect BO q.lo q.hi W216_))) rfl (by kernel_rfl) (fun w hS => x_assign rfl) hq91_ ?_
    refine A_done (by kernel_rfl) ?_
    refine (X_then (hK73_ _ _ ?_))
    clear hK73_
    refine C_ret (X_blkR (X_thenR ?_))
    refine R_any (v := (vB (isect BO q.lo q.hi W216_))) (run_results1 rfl rfl) ⟨_, rfl, ?_⟩
    refine sv (v := (vB (isect BO q.lo q.hi W216_))) (x_assign rfl) ?_
    refine wpList_nil (X_then (hK27_ _ _ ?_))
    clear hK27_
    refine C_ret (X_thenR ?_)
    refine R_any (v := (vB (isect BO q.lo q.hi W216_))) (run_results1 rfl rfl) ?_
    have H92_ : Holds w86_ (ro R :: cl t28_ 188 [(vQ (rt s210_ W216_)), (vI .i64 c212_), (vQ s210_)] :: tr s210_ s210_ W216_ :: clf s210_ 185 z214_ :: cl b37_ 111 [(Value.iface 168 x), (Value.iface 168 (vS (some ⟨b31_, 0, none⟩) ((ints q.key).length + 1) ((ints q.key).length + 1)))] :: cl u6_ 250 [(Value.iface 186 (vQ t17_)), (Value.iface 186 (vQ t28_))] :: cl t17_ 188 [(vQ (rt s19_ W115_)), (vI .i64 c111_), (vQ s19_)] :: tr s19_ s19_ W115_ :: clf s19_ 185 z113_ :: F) := Holds.ro_less H87_ hz_R_R77_
    have H93_ : Holds w86_ (ro R :: F) := (Holds.pkF H92_ [0] 8 :)
    exact ⟨_, _, rfl, ⟨(congrArg vB ((by rw [show kind = 1 by omega]; exact permits_pt he18_ hl hq (by omega)) : (isect BO q.lo q.hi W216_) = (permits l q kind))), rfl⟩, S90_, H93_⟩
   ·have c72_fp : ¬ (kind = 1) := of_decide_eq_false c72_f
    omega
 ·have c26_fp : ¬ (((List.length (ints q.end_)) : Int) = 0) := of_decide_eq_false c26_f
  refine C_skip (X_then (hK24_ _ _ ?_))
  clear hK24_
  refine C_seq (fun K94_ hK94_ => C_reg ?_)
  refine sv (v := (vQ u6_)) (x_move rfl) ?_
  refine sv (v := x) (x_move rfl) ?_
  refine sv (v := y) (x_move rfl) ?_
  refine sv (v := (vI .i32 kind)) (x_move rfl) ?_
  refine S_list (T_callW (al := [(vP none), (vQ u6_), x, y, (vI .i32 kind)]) rfl rfl cb80 (Calls.into (n := 35) (al := [(vP none), (vQ u6_), x, y, (vI .i32 kind)]) Try.func80 rfl Try.ntmps80 rfl rfl ?_))
  refine C_seq (fun K95_ hK95_ => C_reg ?_)
  refine sv (v := (vB false)) (x_assign rfl) ?_
  refine wpList_nil (X_then (hK95_ _ _ ?_))
  clear hK95_
  refine C_seq (fun K96_ hK96_ => ?_)
  refine C_seq (fun K97_ hK97_ => C_reg ?_)
  refine sv (v := y) (x_move rfl) ?_
  refine S_list (T_callW (al := [y]) rfl rfl cb103 (Calls.into (n := 12) (al := [y]) Try.func103 rfl Try.ntmps103 rfl rfl ?_))
  refine C_seq (fun K98_ hK98_ => C_reg ?_)
  refine sv (v := (vB false)) (x_assign rfl) ?_
  refine wpList_nil (X_then (hK98_ _ _ ?_))
  clear hK98_
  refine C_seq (fun K99_ hK99_ => C_reg ?_)
  refine sv (v := y) (x_move rfl) ?_
  refine sv (v := (vI .i64 ((List.length (ints q.end_)) : Int))) (x_lenRS rfl (RS.mono hy hs3_) Try.underlying122) ?_
  refine sv (v := (vB (decide (((List.length (ints q.end_)) : Int) = 1)))) (x_bin rfl rfl rfl) ?_
  refine sv (v := (vB (decide (((List.length (ints q.end_)) : Int) = 1)))) (x_move rfl) ?_
  rcases Bool.eq_false_or_eq_true (decide (((List.length (ints q.end_)) : Int) = 1)) with c100_t | c100_f
  ·have c100_tp : ((List.length (ints q.end_)) : Int) = 1 := of_decide_eq_true c100_t
   refine S_yes (j := 3) (dj := 6) (b := true) rfl rfl (congrArg vB c100_t) (T_val (v := y) (x_move rfl) ?_)
   obtain ⟨x101_, hx102_, hm103_⟩ := elem_at (ints q.end_) 0 (by omega)
   refine S_yes (j := 3) (dj := 6) (b := true) rfl rfl (congrArg vB c100_t) (T_val (v := (vP (some ⟨(sb y), so y + 0, none⟩))) (x_idxRS (v := y) rfl (RS.mono hy hs3_) rfl Try.underlying122 z5 (by omega) (by omega) (by omega : _ = 0) (by rw [Nat.mul_one])) ?_)
   refine S_yes (j := 3) (dj := 6) (b := true) rfl rfl (congrArg vB c100_t) (T_val (v := (vI .u8 x101_)) (x_load1 rfl Try.underlying5 rfl (RC.cell (RS.rc (RS.mono hy hs3_)) (Holds.ro_at H20_ 0 rfl) (j := 0) (u := (vI .u8 x101_)) ((map_at hx102_)))) ?_)
   refine S_yes (j := 3) (dj := 6) (b := true) rfl rfl (congrArg vB c100_t) (T_val (v := (vB (decide (x101_ = 0)))) (x_bin rfl rfl rfl) ?_)
   refine S_list (T_pickT (v := (vB (decide (x101_ = 0)))) (congrArg vB c100_t) rfl ?_)
   refine sv (v := (vB (decide (x101_ = 0)))) (x_assign rfl) ?_
   refine wpList_nil (X_then (hK99_ _ _ ?_))
   clear hK99_
   refine C_ret ?_
   refine R_any (v := (vB (decide (x101_ = 0)))) (run_results1 rfl rfl) ⟨_, rfl, ?_⟩
   refine wpList_nil (X_then (hK97_ _ _ ?_))
   clear hK97_
   refine C_cond (b := decide (x101_ = 0)) rfl (fun c104_t => ?_) (fun c104_f => ?_)
   ·have c104_tp : x101_ = 0 := of_decide_eq_true c104_t
    refine C_reg ?_
    refine sv (v := (vS none 0 0)) (x_assign rfl) ?_
    refine wpList_nil (X_then (hK96_ _ _ ?_))
    clear hK96_
    refine C_seq (fun K105_ hK105_ => C_reg ?_)
    refine sv (v := x) (x_move rfl) ?_
    refine sv (v := (vS none 0 0)) (x_move rfl) ?_
    refine S_list (T_callW (al := [x, (vS none 0 0)]) rfl rfl cb101 (Calls.into (n := 10) (al := [x, (vS none 0 0)]) Try.func101 rfl Try.ntmps101 rfl rfl ?_))
    refine C_seq (fun K106_ hK106_ => C_reg ?_)
    refine S_list (T_alloc z111 H20_ ?_)
    intro b107_ w108_ S110_ H109_
    have S111_ := Same.trans S23_ S110_
    refine wpList_nil (X_then (hK106_ _ _ ?_))
    clear hK106_
    refine C_seq (fun K112_ hK112_ => C_reg ?_)
    refine sv (v := x) (x_move rfl) ?_
    refine sv (v := (Value.iface 168 x)) (by kernel_rfl) ?_
    refine sv (v := (vS none 0 0)) (x_move rfl) ?_
    refine sv (v := (Value.iface 168 (vS none 0 0))) (by kernel_rfl) ?_
    refine sv (v := (vA #[(Value.iface 168 x), (Value.iface 168 (vS none 0 0))])) (by kernel_rfl) ?_
    refine S_list0 (T_storeN (vs := [(Value.iface 168 x), (Value.iface 168 (vS none 0 0))]) rfl rfl z111 rfl (by simp [Value.oneCell']) H109_ 0 rfl (Nat.le_of_ble_eq_true (by rfl)) ?_)
    intro w113_ S115_ H114_
    have S116_ := Same.trans S111_ S115_
    refine wpList_nil (X_then (hK112_ _ _ ?_))
    clear hK112_
    refine C_ret ?_
    refine R_any (v := (vA #[(Value.iface 168 x), (Value.iface 168 (vS none 0 0))])) (run_results1 rfl ⟨_, rfl, load_resN Try.underlying111 rfl z111 rfl (vs := [(Value.iface 168 x), (Value.iface 168 (vS none 0 0))]) (Holds.cl_cells H114_ 0 rfl 0 rfl)⟩) ⟨_, rfl, ?_⟩
    refine S_list (T_alloc z111 H114_ ?_)
    intro b117_ w118_ S120_ H119_
    have S121_ := Same.trans S116_ S120_
    refine S_list0 (T_storeN (vs := [(Value.iface 168 x), (Value.iface 168 (vS none 0 0))]) rfl rfl z111 rfl (by simp [Value.oneCell']) H119_ 0 rfl (Nat.le_of_ble_eq_true (by rfl)) ?_)
    intro w122_ S124_ H123_
    have S125_ := Same.trans S121_ S124_
    refine wpList_nil (X_then (hK105_ _ _ ?_))
    clear hK105_
    refine C_seq (fun K126_ hK126_ => ?_)
    refine C_seq (fun K127_ hK127_ => C_reg ?_)
    refine sv (v := (vI .i32 kind)) (x_move rfl) ?_
    refine wpList_nil (X_then (hK127_ _ _ ?_))
    clear hK127_
    refine C_block ?_
    refine C_seq (fun K128_ hK128_ => C_reg ?_)
    refine sv (v := (vB (decide (kind = 0)))) (x_bin rfl rfl rfl) ?_
    refine sv (v := (vB (decide (kind = 0)))) (x_assign rfl) ?_
    refine wpList_nil (X_then (hK128_ _ _ ?_))
    clear hK128_
    refine C_cond (b := decide (kind = 0)) rfl (fun c129_t => ?_) (fun c129_f => ?_)
    ·have c129_tp : kind = 0 := of_decide_eq_true c129_t
     refine C_seq (fun K130_ hK130_ => ?_)
     refine A_start (S := fun w => Rd b117_ [(Value.iface 168 x), (Value.iface 168 (vS none 0 0))] w ∧ Rd u6_ [(Value.iface 186 (vQ t17_)), (Value.iface 186 (vQ t28_))] w ∧ Rd t17_ [(vQ (rt s19_ W115_)), (vI .i64 c111_), (vQ s19_)] w ∧ RtRd w (rt s19_ W115_) (rmx W115_) ∧ Rd t28_ [(vQ (rt s210_ W216_)), (vI .i64 c212_), (vQ s210_)] w ∧ RtRd w (rt s210_ W216_) (rmx W216_) ∧ Sub R4_ (hp w)) (N := 7) foll rfl rfl ?_
     have H131_ := Holds.drew_ H123_
     have hq132_ := And.intro (Holds.rd H131_ 0 rfl) (And.intro (Holds.rd H131_ 3 rfl) (And.intro (Holds.rd H131_ 4 rfl) (And.intro (Holds.tr_rd H131_ 5 rfl 6 rfl) (And.intro (Holds.rd H131_ 7 rfl) (And.intro (Holds.tr_rd H131_ 8 rfl 9 rfl) ((Holds.ro_at H131_ 2 rfl)))))))
     refine A_tk 0 (v := (vQ u6_)) rfl (by kernel_rfl) (fun w hS => x_move rfl) hq132_ ?_
     refine A_tk 1 (v := (vQ u6_)) rfl (by kernel_rfl) (fun w hS => by kernel_rfl) hq132_ ?_
     refine A_tk 2 (v := (vQ u6_)) rfl (by kernel_rfl) (fun w hS => by kernel_rfl) hq132_ ?_
     refine A_tk 3 (v := (Value.iface 186 (vQ t17_))) rfl (by kernel_rfl) (fun w hS => x_load1 rfl Try.underlying101 rfl (hS.2.1 0 (Value.iface 186 (vQ t17_)) rfl)) hq132_ ?_
     refine A_tk 4 (v := (vA #[(Value.iface 168 x), (Value.iface 168 (vS none 0 0))])) rfl (by kernel_rfl) (fun w hS => x_loadN (vs := [(Value.iface 168 x), (Value.iface 168 (vS none 0 0))]) rfl Try.underlying111 rfl z111 rfl (Rd.cells hS.1 0 rfl)) hq132_ ?_
     refine A_ready (i := 5) (rs := []) (by kernel_rfl) ?_
     refine AllR.cons ?_ AllR.nil
     have H134_ := ((Holds.bring (Holds.bring (Holds.bring (Holds.bring H131_ 6 rfl) 6 rfl) 6 rfl) 5 rfl) :)
     refine A_op (ls' := #[true, true, true, true, true, true, false]) rfl (by kernel_rfl) (T_invoke (al := [(vQ t17_), (vA #[((Value.iface 168 x)), ((Value.iface 168 (vS none 0 0)))])]) (pre := [cl t17_ 188 [(vQ (rt s19_ W115_)), (vI .i64 c111_), (vQ s19_)], tr s19_ s19_ W115_, clf s19_ 185 z113_]) rfl (fun w => by kernel_rfl) (lcons rfl (lcons (congrArg (fun l => vA (List.toArray l)) (lcons (rfl : (Value.iface 168 x) = ((Value.iface 168 x))) (lcons (rfl : (Value.iface 168 (vS none 0 0)) = ((Value.iface 168 (vS none 0 0)))) rfl))) rfl)) cb143 (itContains R4_ (List UInt8) BO t17_ s19_ c111_ z113_ W115_ 168 168 x (vS none 0 0) q.lo q.hi ((he17_).ok.1) (⟨x, ints q.key, rfl, (RS.mono hx hs3_), (u8s_ints q.key).symm⟩) (⟨_, [], rfl, RS.nil _ _, PM.hi_nil (bytes_one (by omega) hx102_ (by omega))⟩)) H134_ ?_)
     rintro v133_ p138_ w135_ ⟨rfl, rfl⟩ S137_ H136_
     have S139_ := Same.trans (Same.trans S125_ (Same.drew _)) S137_
     refine ⟨⟨Holds.rd H136_ 4 rfl, Holds.rd H136_ 6 rfl, Holds.rd H136_ 1 rfl, Holds.tr_rd H136_ 2 rfl 3 rfl, Holds.rd H136_ 7 rfl, Holds.tr_rd H136_ 8 rfl 9 rfl, (Holds.ro_at H136_ 0 rfl)⟩, ?_⟩
     have hq140_ := And.intro (Holds.rd H136_ 4 rfl) (And.intro (Holds.rd H136_ 6 rfl) (And.intro (Holds.rd H136_ 1 rfl) (And.intro (Holds.tr_rd H136_ 2 rfl 3 rfl) (And.intro (Holds.rd H136_ 7 rfl) (And.intro (Holds.tr_rd H136_ 8 rfl 9 rfl) ((Holds.ro_at H136_ 0 rfl)))))))
     refine A_tk 6 (v := (vB ((vis BO (CS.step BO) q.lo q.hi W115_ (⟨none, true⟩ : CS (List UInt8))).1.yes BO q.lo q.hi))) rfl (by kernel_rfl) (fun w hS => x_assign rfl) hq140_ ?_
     refine A_done (by kernel_rfl) ?_
     refine (X_then (hK130_ _ _ ?_))
     clear hK130_
     refine C_ret (X_blkR (X_thenR ?_))
     refine R_any (v := (vB ((vis BO (CS.step BO) q.lo q.hi W115_ (⟨none, true⟩ : CS (List UInt8))).1.yes BO q.lo q.hi))) (run_results1 rfl rfl) ⟨_, rfl, ?_⟩
     refine sv (v := (vB ((vis BO (CS.step BO) q.lo q.hi W115_ (⟨none, true⟩ : CS (List UInt8))).1.yes BO q.lo q.hi))) (x_assign rfl) ?_
     refine wpList_nil (X_then (hK94_ _ _ ?_))
     clear hK94_
     refine C_ret ?_
     refine R_any (v := (vB ((vis BO (CS.step BO) q.lo q.hi W115_ (⟨none, true⟩ : CS (List UInt8))).1.yes BO q.lo q.hi))) (run_results1 rfl rfl) ?_
     have H141_ : Holds w135_ (ro R :: cl t17_ 188 [(vQ (rt s19_ W115_)), (vI .i64 c111_), (vQ s19_)] :: tr s19_ s19_ W115_ :: clf s19_ 185 z113_ :: cl b117_ 111 [(Value.iface 168 x), (Value.iface 168 (vS none 0 0))] :: cl b107_ 111 [(Value.iface 168 x), (Value.iface 168 (vS none 0 0))] :: cl u6_ 250 [(Value.iface 186 (vQ t17_)), (Value.iface 186 (vQ t28_))] :: cl t28_ 188 [(vQ (rt s210_ W216_)), (vI .i64 c212_), (vQ s210_)] :: tr s210_ s210_ W216_ :: clf s210_ 185 z214_ :: F) := Holds.ro_less H136_ hs3_
     have H142_ : Holds w135_ (ro R :: F) := (Holds.pkF H141_ [0] 9 :)
     exact ⟨_, _, rfl, ⟨(congrArg vB ((by rw [show kind = 0 by omega]; exact permits_iv he17_ hl hq (by omega)) : ((vis BO (CS.step BO) q.lo q.hi W115_ (⟨none, true⟩ : CS (List UInt8))).1.yes BO q.lo q.hi) = (permits l q kind))), rfl⟩, S139_, H142_⟩
    ·have c129_fp : ¬ (kind = 0) := of_decide_eq_false c129_f
     refine C_seq (fun K143_ hK143_ => C_reg ?_)
     refine sv (v := (vB (decide (kind = 1)))) (x_bin rfl rfl rfl) ?_
     refine sv (v := (vB (decide (kind = 1)))) (x_assign rfl) ?_
     refine wpList_nil (X_then (hK143_ _ _ ?_))
     clear hK143_
     refine C_cond (b := decide (kind = 1)) rfl (fun c144_t => ?_) (fun c144_f => ?_)
     ·have c144_tp : kind = 1 := of_decide_eq_true c144_t
      refine C_seq (fun K145_ hK145_ => ?_)
      refine A_start (S := fun w => Rd b117_ [(Value.iface 168 x), (Value.iface 168 (vS none 0 0))] w ∧ Rd u6_ [(Value.iface 186 (vQ t17_)), (Value.iface 186 (vQ t28_))] w ∧ Rd t17_ [(vQ (rt s19_ W115_)), (vI .i64 c111_), (vQ s19_)] w ∧ RtRd w (rt s19_ W115_) (rmx W115_) ∧ Rd t28_ [(vQ (rt s210_ W216_)), (vI .i64 c212_), (vQ s210_)] w ∧ RtRd w (rt s210_ W216_) (rmx W216_) ∧ Sub R4_ (hp w)) (N := 7) foll rfl rfl ?_
      have H146_ := Holds.drew_ H123_
      have hq147_ := And.intro (Holds.rd H146_ 0 rfl) (And.intro (Holds.rd H146_ 3 rfl) (And.intro (Holds.rd H146_ 4 rfl) (And.intro (Holds.tr_rd H146_ 5 rfl 6 rfl) (And.intro (Holds.rd H146_ 7 rfl) (And.intro (Holds.tr_rd H146_ 8 rfl 9 rfl) ((Holds.ro_at H146_ 2 rfl)))))))
      refine A_tk 0 (v := (vQ u6_)) rfl (by kernel_rfl) (fun w hS => x_move rfl) hq147_ ?_
      refine A_tk 1 (v := (vQ u6_)) rfl (by kernel_rfl) (fun w hS => by kernel_rfl) hq147_ ?_
      refine A_tk 2 (v := (vP (some ⟨u6_, 1, none⟩))) rfl (by kernel_rfl) (fun w hS => by kernel_rfl) hq147_ ?_
      refine A_tk 3 (v := (Value.iface 186 (vQ t28_))) rfl (by kernel_rfl) (fun w hS => x_load1 rfl Try.underlying101 rfl (hS.2.1 1 (Value.iface 186 (vQ t28_)) rfl)) hq147_ ?_
      refine A_tk 4 (v := (vA #[(Value.iface 168 x), (Value.iface 168 (vS none 0 0))])) rfl (by kernel_rfl) (fun w hS => x_loadN (vs := [(Value.iface 168 x), (Value.iface 168 (vS none 0 0))]) rfl Try.underlying111 rfl z111 rfl (Rd.cells hS.1 0 rfl)) hq147_ ?_
      refine A_ready (i := 5) (rs := []) (by kernel_rfl) ?_
      refine AllR.cons ?_ AllR.nil
      have H149_ := ((Holds.bring (Holds.bring (Holds.bring (Holds.bring H146_ 9 rfl) 9 rfl) 9 rfl) 5 rfl) :)
      refine A_op (ls' := #[true, true, true, true, true, true, false]) rfl (by kernel_rfl) (T_invoke (al := [(vQ t28_), (vA #[((Value.iface 168 x)), ((Value.iface 168 (vS none 0 0)))])]) (pre := [cl t28_ 188 [(vQ (rt s210_ W216_)), (vI .i64 c212_), (vQ s210_)], tr s210_ s210_ W216_, clf s210_ 185 z214_]) rfl (fun w => by kernel_rfl) (lcons rfl (lcons (congrArg (fun l => vA (List.toArray l)) (lcons (rfl : (Value.iface 168 x) = ((Value.iface 168 x))) (lcons (rfl : (Value.iface 168 (vS none 0 0)) = ((Value.iface 168 (vS none 0 0)))) rfl))) rfl)) cb143 (itContains R4_ (List UInt8) BO t28_ s210_ c212_ z214_ W216_ 168 168 x (vS none 0 0) q.lo q.hi ((he18_).ok.1) (⟨x, ints q.key, rfl, (RS.mono hx hs3_), (u8s_ints q.key).symm⟩) (⟨_, [], rfl, RS.nil _ _, PM.hi_nil (bytes_one (by omega) hx102_ (by omega))⟩)) H149_ ?_)
      rintro v148_ p153_ w150_ ⟨rfl, rfl⟩ S152_ H151_
      have S154_ := Same.trans (Same.trans S125_ (Same.drew _)) S152_
      refine ⟨⟨Holds.rd H151_ 4 rfl, Holds.rd H151_ 6 rfl, Holds.rd H151_ 7 rfl, Holds.tr_rd H151_ 8 rfl 9 rfl, Holds.rd H151_ 1 rfl, Holds.tr_rd H151_ 2 rfl 3 rfl, (Holds.ro_at H151_ 0 rfl)⟩, ?_⟩
      have hq155_ := And.intro (Holds.rd H151_ 4 rfl) (And.intro (Holds.rd H151_ 6 rfl) (And.intro (Holds.rd H151_ 7 rfl) (And.intro (Holds.tr_rd H151_ 8 rfl 9 rfl) (And.intro (Holds.rd H151_ 1 rfl) (And.intro (Holds.tr_rd H151_ 2 rfl 3 rfl) ((Holds.ro_at H151_ 0 rfl)))))))
      refine A_tk 6 (v := (vB ((vis BO (CS.step BO) q.lo q.hi W216_ (⟨none, true⟩ : CS (List UInt8))).1.yes BO q.lo q.hi))) rfl (by kernel_rfl) (fun w hS => x_assign rfl) hq155_ ?_
      refine A_done (by kernel_rfl) ?_
      refine (X_then (hK145_ _ _ ?_))
      clear hK145_
      refine C_ret (X_blkR (X_thenR ?_))
      refine R_any (v := (vB ((vis BO (CS.step BO) q.lo q.hi W216_ (⟨none, true⟩ : CS (List UInt8))).1.yes BO q.lo q.hi))) (run_results1 rfl rfl) ⟨_, rfl, ?_⟩
      refine sv (v := (vB ((vis BO (CS.step BO) q.lo q.hi W216_ (⟨none, true⟩ : CS (List UInt8))).1.yes BO q.lo q.hi))) (x_assign rfl) ?_
      refine wpList_nil (X_then (hK94_ _ _ ?_))
      clear hK94_
      refine C_ret ?_
      refine R_any (v := (vB ((vis BO (CS.step BO) q.lo q.hi W216_ (⟨none, true⟩ : CS (List UInt8))).1.yes BO q.lo q.hi))) (run_results1 rfl rfl) ?_
      have H156_ : Holds w150_ (ro R :: cl t28_ 188 [(vQ (rt s210_ W216_)), (vI .i64 c212_), (vQ s210_)] :: tr s210_ s210_ W216_ :: clf s210_ 185 z214_ :: cl b117_ 111 [(Value.iface 168 x), (Value.iface 168 (vS none 0 0))] :: cl b107_ 111 [(Value.iface 168 x), (Value.iface 168 (vS none 0 0))] :: cl u6_ 250 [(Value.iface 186 (vQ t17_)), (Value.iface 186 (vQ t28_))] :: cl t17_ 188 [(vQ (rt s19_ W115_)), (vI .i64 c111_), (vQ s19_)] :: tr s19_ s19_ W115_ :: clf s19_ 185 z113_ :: F) := Holds.ro_less H151_ hs3_
      have H157_ : Holds w150_ (ro R :: F) := (Holds.pkF H156_ [0] 9 :)
      exact ⟨_, _, rfl, ⟨(congrArg vB ((by rw [show kind = 1 by omega]; exact permits_iv he18_ hl hq (by omega)) : ((vis BO (CS.step BO) q.lo q.hi W216_ (⟨none, true⟩ : CS (List UInt8))).1.yes BO q.lo q.hi) = (permits l q kind))), rfl⟩, S154_, H157_⟩
     ·have c144_fp : ¬ (kind = 1) := of_decide_eq_false c144_f
      omega
   ·have c104_fp : ¬ (x101_ = 0) := of_decide_eq_false c104_f
    refine C_skip (X_then (hK96_ _ _ ?_))
    clear hK96_
    refine C_seq (fun K158_ hK158_ => C_reg ?_)
    refine sv (v := x) (x_move rfl) ?_
    refine sv (v := y) (x_move rfl) ?_
    refine S_list (T_callW (al := [x, y]) rfl rfl cb101 (Calls.into (n := 10) (al := [x, y]) Try.func101 rfl Try.ntmps101 rfl rfl ?_))
    refine C_seq (fun K159_ hK159_ => C_reg ?_)
    refine S_list (T_alloc z111 H20_ ?_)
    intro b160_ w161_ S163_ H162_
    have S164_ := Same.trans S23_ S163_
    refine wpList_nil (X_then (hK159_ _ _ ?_))
    clear hK159_
    refine C_seq (fun K165_ hK165_ => C_reg ?_)
    refine sv (v := x) (x_move rfl) ?_
    refine sv (v := (Value.iface 168 x)) (by kernel_rfl) ?_
    refine sv (v := y) (x_move rfl) ?_
    refine sv (v := (Value.iface 168 y)) (by kernel_rfl) ?_
    refine sv (v := (vA #[(Value.iface 168 x), (Value.iface 168 y)])) (by kernel_rfl) ?_
    refine S_list0 (T_storeN (vs := [(Value.iface 168 x), (Value.iface 168 y)]) rfl rfl z111 rfl (by simp [Value.oneCell']) H162_ 0 rfl (Nat.le_of_ble_eq_true (by rfl)) ?_)
    intro w166_ S168_ H167_
    have S169_ := Same.trans S164_ S168_
    refine wpList_nil (X_then (hK165_ _ _ ?_))
    clear hK165_
    refine C_ret ?_
    refine R_any (v := (vA #[(Value.iface 168 x), (Value.iface 168 y)])) (run_results1 rfl ⟨_, rfl, load_resN Try.underlying111 rfl z111 rfl (vs := [(Value.iface 168 x), (Value.iface 168 y)]) (Holds.cl_cells H167_ 0 rfl 0 rfl)⟩) ⟨_, rfl, ?_⟩
    refine S_list (T_alloc z111 H167_ ?_)
    intro b170_ w171_ S173_ H172_
    have S174_ := Same.trans S169_ S173_
    refine S_list0 (T_storeN (vs := [(Value.iface 168 x), (Value.iface 168 y)]) rfl rfl z111 rfl (by simp [Value.oneCell']) H172_ 0 rfl (Nat.le_of_ble_eq_true (by rfl)) ?_)
    intro w175_ S177_ H176_
    have S178_ := Same.trans S174_ S177_
    refine wpList_nil (X_then (hK158_ _ _ ?_))
    clear hK158_
    refine C_seq (fun K179_ hK179_ => ?_)
    refine C_seq (fun K180_ hK180_ => C_reg ?_)
    refine sv (v := (vI .i32 kind)) (x_move rfl) ?_
    refine wpList_nil (X_then (hK180_ _ _ ?_))
    clear hK180_
    refine C_block ?_
    refine C_seq (fun K181_ hK181_ => C_reg ?_)
    refine sv (v := (vB (decide (kind = 0)))) (x_bin rfl rfl rfl) ?_
    refine sv (v := (vB (decide (kind = 0)))) (x_assign rfl) ?_
    refine wpList_nil (X_then (hK181_ _ _ ?_))
    clear hK181_
    refine C_cond (b := decide (kind = 0)) rfl (fun c182_t => ?_) (fun c182_f => ?_)
    ·have c182_tp : kind = 0 := of_decide_eq_true c182_t
     refine C_seq (fun K183_ hK183_ => ?_)
     refine A_start (S := fun w => Rd b170_ [(Value.iface 168 x), (Value.iface 168 y)] w ∧ Rd u6_ [(Value.iface 186 (vQ t17_)), (Value.iface 186 (vQ t28_))] w ∧ Rd t17_ [(vQ (rt s19_ W115_)), (vI .i64 c111_), (vQ s19_)] w ∧ RtRd w (rt s19_ W115_) (rmx W115_) ∧ Rd t28_ [(vQ (rt s210_ W216_)), (vI .i64 c212_), (vQ s210_)] w ∧ RtRd w (rt s210_ W216_) (rmx W216_) ∧ Sub R4_ (hp w)) (N := 7) foll rfl rfl ?_
     have H184_ := Holds.drew_ H176_
     have hq185_ := And.intro (Holds.rd H184_ 0 rfl) (And.intro (Holds.rd H184_ 3 rfl) (And.intro (Holds.rd H184_ 4 rfl) (And.intro (Holds.tr_rd H184_ 5 rfl 6 rfl) (And.intro (Holds.rd H184_ 7 rfl) (And.intro (Holds.tr_rd H184_ 8 rfl 9 rfl) ((Holds.ro_at H184_ 2 rfl)))))))
     refine A_tk 0 (v := (vQ u6_)) rfl (by kernel_rfl) (fun w hS => x_move rfl) hq185_ ?_
     refine A_tk 1 (v := (vQ u6_)) rfl (by kernel_rfl) (fun w hS => by kernel_rfl) hq185_ ?_
     refine A_tk 2 (v := (vQ u6_)) rfl (by kernel_rfl) (fun w hS => by kernel_rfl) hq185_ ?_
     refine A_tk 3 (v := (Value.iface 186 (vQ t17_))) rfl (by kernel_rfl) (fun w hS => x_load1 rfl Try.underlying101 rfl (hS.2.1 0 (Value.iface 186 (vQ t17_)) rfl)) hq185_ ?_
     refine A_tk 4 (v := (vA #[(Value.iface 168 x), (Value.iface 168 y)])) rfl (by kernel_rfl) (fun w hS => x_loadN (vs := [(Value.iface 168 x), (Value.iface 168 y)]) rfl Try.underlying111 rfl z111 rfl (Rd.cells hS.1 0 rfl)) hq185_ ?_
     refine A_ready (i := 5) (rs := []) (by kernel_rfl) ?_
     refine AllR.cons ?_ AllR.nil
     have H187_ := ((Holds.bring (Holds.bring (Holds.bring (Holds.bring H184_ 6 rfl) 6 rfl) 6 rfl) 5 rfl) :)
     refine A_op (ls' := #[true, true, true, true, true, true, false]) rfl (by kernel_rfl) (T_invoke (al := [(vQ t17_), (vA #[((Value.iface 168 x)), ((Value.iface 168 y))])]) (pre := [cl t17_ 188 [(vQ (rt s19_ W115_)), (vI .i64 c111_), (vQ s19_)], tr s19_ s19_ W115_, clf s19_ 185 z113_]) rfl (fun w => by kernel_rfl) (lcons rfl (lcons (congrArg (fun l => vA (List.toArray l)) (lcons (rfl : (Value.iface 168 x) = ((Value.iface 168 x))) (lcons (rfl : (Value.iface 168 y) = ((Value.iface 168 y))) rfl))) rfl)) cb143 (itContains R4_ (List UInt8) BO t17_ s19_ c111_ z113_ W115_ 168 168 x y q.lo q.hi ((he17_).ok.1) (⟨x, ints q.key, rfl, (RS.mono hx hs3_), (u8s_ints q.key).symm⟩) (⟨y, ints q.end_, rfl, (RS.mono hy hs3_), (PM.hi_end (by omega) (by first | exact bytes_len (by omega) | exact bytes_not hx102_ (by omega))).trans (u8s_ints q.end_).symm⟩)) H187_ ?_)
     rintro v186_ p191_ w188_ ⟨rfl, rfl⟩ S190_ H189_
     have S192_ := Same.trans (Same.trans S178_ (Same.drew _)) S190_
     refine ⟨⟨Holds.rd H189_ 4 rfl, Holds.rd H189_ 6 rfl, Holds.rd H189_ 1 rfl, Holds.tr_rd H189_ 2 rfl 3 rfl, Holds.rd H189_ 7 rfl, Holds.tr_rd H189_ 8 rfl 9 rfl, (Holds.ro_at H189_ 0 rfl)⟩, ?_⟩
     have hq193_ := And.intro (Holds.rd H189_ 4 rfl) (And.intro (Holds.rd H189_ 6 rfl) (And.intro (Holds.rd H189_ 1 rfl) (And.intro (Holds.tr_rd H189_ 2 rfl 3 rfl) (And.intro (Holds.rd H189_ 7 rfl) (And.intro (Holds.tr_rd H189_ 8 rfl 9 rfl) ((Holds.ro_at H189_ 0 rfl)))))))
     refine A_tk 6 (v := (vB ((vis BO (CS.step BO) q.lo q.hi W115_ (⟨none, true⟩ : CS (List UInt8))).1.yes BO q.lo q.hi))) rfl (by kernel_rfl) (fun w hS => x_assign rfl) hq193_ ?_
     refine A_done (by kernel_rfl) ?_
     refine (X_then (hK183_ _ _ ?_))
     clear hK183_
     refine C_ret (X_blkR (X_thenR ?_))
     refine R_any (v := (vB ((vis BO (CS.step BO) q.lo q.hi W115_ (⟨none, true⟩ : CS (List UInt8))).1.yes BO q.lo q.hi))) (run_results1 rfl rfl) ⟨_, rfl, ?_⟩
     refine sv (v := (vB ((vis BO (CS.step BO) q.lo q.hi W115_ (⟨none, true⟩ : CS (List UInt8))).1.yes BO q.lo q.hi))) (x_assign rfl) ?_
     refine wpList_nil (X_then (hK94_ _ _ ?_))
     clear hK94_
     refine C_ret ?_
     refine R_any (v := (vB ((vis BO (CS.step BO) q.lo q.hi W115_ (⟨none, true⟩ : CS (List UInt8))).1.yes BO q.lo q.hi))) (run_results1 rfl rfl) ?_
     have H194_ : Holds w188_ (ro R :: cl t17_ 188 [(vQ (rt s19_ W115_)), (vI .i64 c111_), (vQ s19_)] :: tr s19_ s19_ W115_ :: clf s19_ 185 z113_ :: cl b170_ 111 [(Value.iface 168 x), (Value.iface 168 y)] :: cl b160_ 111 [(Value.iface 168 x), (Value.iface 168 y)] :: cl u6_ 250 [(Value.iface 186 (vQ t17_)), (Value.iface 186 (vQ t28_))] :: cl t28_ 188 [(vQ (rt s210_ W216_)), (vI .i64 c212_), (vQ s210_)] :: tr s210_ s210_ W216_ :: clf s210_ 185 z214_ :: F) := Holds.ro_less H189_ hs3_
     have H195_ : Holds w188_ (ro R :: F) := (Holds.pkF H194_ [0] 9 :)
     exact ⟨_, _, rfl, ⟨(congrArg vB ((by rw [show kind = 0 by omega]; exact permits_iv he17_ hl hq (by omega)) : ((vis BO (CS.step BO) q.lo q.hi W115_ (⟨none, true⟩ : CS (List UInt8))).1.yes BO q.lo q.hi) = (permits l q kind))), rfl⟩, S192_, H195_⟩
    ·have c182_fp : ¬ (kind = 0) := of_decide_eq_false c182_f
     refine C_seq (fun K196_ hK196_ => C_reg ?_)
     refine sv (v := (vB (decide (kind = 1)))) (x_bin rfl rfl rfl) ?_
     refine sv (v := (vB (decide (kind = 1)))) (x_assign rfl) ?_
     refine wpList_nil (X_then (hK196_ _ _ ?_))
     clear hK196_
     refine C_cond (b := decide (kind = 1)) rfl (fun c197_t => ?_) (fun c197_f => ?_)
     ·have c197_tp : kind = 1 := of_decide_eq_true c197_t
      refine C_seq (fun K198_ hK198_ => ?_)
      refine A_start (S := fun w => Rd b170_ [(Value.iface 168 x), (Value.iface 168 y)] w ∧ Rd u6_ [(Value.iface 186 (vQ t17_)), (Value.iface 186 (vQ t28_))] w ∧ Rd t17_ [(vQ (rt s19_ W115_)), (vI .i64 c111_), (vQ s19_)] w ∧ RtRd w (rt s19_ W115_) (rmx W115_) ∧ Rd t28_ [(vQ (rt s210_ W216_)), (vI .i64 c212_), (vQ s210_)] w ∧ RtRd w (rt s210_ W216_) (rmx W216_) ∧ Sub R4_ (hp w)) (N := 7) foll rfl rfl ?_
      have H199_ := Holds.drew_ H176_
      have hq200_ := And.intro (Holds.rd H199_ 0 rfl) (And.intro (Holds.rd H199_ 3 rfl) (And.intro (Holds.rd H199_ 4 rfl) (And.intro (Holds.tr_rd H199_ 5 rfl 6 rfl) (And.intro (Holds.rd H199_ 7 rfl) (And.intro (Holds.tr_rd H199_ 8 rfl 9 rfl) ((Holds.ro_at H199_ 2 rfl)))))))
      refine A_tk 0 (v := (vQ u6_)) rfl (by kernel_rfl) (fun w hS => x_move rfl) hq200_ ?_
      refine A_tk 1 (v := (vQ u6_)) rfl (by kernel_rfl) (fun w hS => by kernel_rfl) hq200_ ?_
      refine A_tk 2 (v := (vP (some ⟨u6_, 1, none⟩))) rfl (by kernel_rfl) (fun w hS => by kernel_rfl) hq200_ ?_
      refine A_tk 3 (v := (Value.iface 186 (vQ t28_))) rfl (by kernel_rfl) (fun w hS => x_load1 rfl Try.underlying101 rfl (hS.2.1 1 (Value.iface 186 (vQ t28_)) rfl)) hq200_ ?_
      refine A_tk 4 (v := (vA #[(Value.iface 168 x), (Value.iface 168 y)])) rfl (by kernel_rfl) (fun w hS => x_loadN (vs := [(Value.iface 168 x), (Value.iface 168 y)]) rfl Try.underlying111 rfl z111 rfl (Rd.cells hS.1 0 rfl)) hq200_ ?_
      refine A_ready (i := 5) (rs := []) (by kernel_rfl) ?_
      refine AllR.cons ?_ AllR.nil
      have H202_ := ((Holds.bring (Holds.bring (Holds.bring (Holds.bring H199_ 9 rfl) 9 rfl) 9 rfl) 5 rfl) :)
      refine A_op (ls' := #[true, true, true, true, true, true, false]) rfl (by kernel_rfl) (T_invoke (al := [(vQ t28_), (vA #[((Value.iface 168 x)), ((Value.iface 168 y))])]) (pre := [cl t28_ 188 [(vQ (rt s210_ W216_)), (vI .i64 c212_), (vQ s210_)], tr s210_ s210_ W216_, clf s210_ 185 z214_]) rfl (fun w => by kernel_rfl) (lcons rfl (lcons (congrArg (fun l => vA (List.toArray l)) (lcons (rfl : (Value.iface 168 x) = ((Value.iface 168 x))) (lcons (rfl : (Value.iface 168 y) = ((Value.iface 168 y))) rfl))) rfl)) cb143 (itContains R4_ (List UInt8) BO t28_ s210_ c212_ z214_ W216_ 168 168 x y q.lo q.hi ((he18_).ok.1) (⟨x, ints q.key, rfl, (RS.mono hx hs3_), (u8s_ints q.key).symm⟩) (⟨y, ints q.end_, rfl, (RS.mono hy hs3_), (PM.hi_end (by omega) (by first | exact bytes_len (by omega) | exact bytes_not hx102_ (by omega))).trans (u8s_ints q.end_).symm⟩)) H202_ ?_)
      rintro v201_ p206_ w203_ ⟨rfl, rfl⟩ S205_ H204_
      have S207_ := Same.trans (Same.trans S178_ (Same.drew _)) S205_
      refine ⟨⟨Holds.rd H204_ 4 rfl, Holds.rd H204_ 6 rfl, Holds.rd H204_ 7 rfl, Holds.tr_rd H204_ 8 rfl 9 rfl, Holds.rd H204_ 1 rfl, Holds.tr_rd H204_ 2 rfl 3 rfl, (Holds.ro_at H204_ 0 rfl)⟩, ?_⟩
      have hq208_ := And.intro (Holds.rd H204_ 4 rfl) (And.intro (Holds.rd H204_ 6 rfl) (And.intro (Holds.rd H204_ 7 rfl) (And.intro (Holds.tr_rd H204_ 8 rfl 9 rfl) (And.intro (Holds.rd H204_ 1 rfl) (And.intro (Holds.tr_rd H204_ 2 rfl 3 rfl) ((Holds.ro_at H204_ 0 rfl)))))))
      refine A_tk 6 (v := (vB ((vis BO (CS.step BO) q.lo q.hi W216_ (⟨none, true⟩ : CS (List UInt8))).1.yes BO q.lo q.hi))) rfl (by kernel_rfl) (fun w hS => x_assign rfl) hq208_ ?_
      refine A_done (by kernel_rfl) ?_
      refine (X_then (hK198_ _ _ ?_))
      clear hK198_
      refine C_ret (X_blkR (X_thenR ?_))
      refine R_any (v := (vB ((vis BO (CS.step BO) q.lo q.hi W216_ (⟨none, true⟩ : CS (List UInt8))).1.yes BO q.lo q.hi))) (run_results1 rfl rfl) ⟨_, rfl, ?_⟩
      refine sv (v := (vB ((vis BO (CS.step BO) q.lo q.hi W216_ (⟨none, true⟩ : CS (List UInt8))).1.yes BO q.lo q.hi))) (x_assign rfl) ?_
      refine wpList_nil (X_then (hK94_ _ _ ?_))
      clear hK94_
      refine C_ret ?_
      refine R_any (v := (vB ((vis BO (CS.step BO) q.lo q.hi W216_ (⟨none, true⟩ : CS (List UInt8))).1.yes BO q.lo q.hi))) (run_results1 rfl rfl) ?_
      have H209_ : Holds w203_ (ro R :: cl t28_ 188 [(vQ (rt s210_ W216_)), (vI .i64 c212_), (vQ s210_)] :: tr s210_ s210_ W216_ :: clf s210_ 185 z214_ :: cl b170_ 111 [(Value.iface 168 x), (Value.iface 168 y)] :: cl b160_ 111 [(Value.iface 168 x), (Value.iface 168 y)] :: cl u6_ 250 [(Value.iface 186 (vQ t17_)), (Value.iface 186 (vQ t28_))] :: cl t17_ 188 [(vQ (rt s19_ W115_)), (vI .i64 c111_), (vQ s19_)] :: tr s19_ s19_ W115_ :: clf s19_ 185 z113_ :: F) := Holds.ro_less H204_ hs3_
      have H210_ : Holds w203_ (ro R :: F) := (Holds.pkF H209_ [0] 9 :)
      exact ⟨_, _, rfl, ⟨(congrArg vB ((by rw [show kind = 1 by omega]; exact permits_iv he18_ hl hq (by omega)) : ((vis BO (CS.step BO) q.lo q.hi W216_ (⟨none, true⟩ : CS (List UInt8))).1.yes BO q.lo q.hi) = (permits l q kind))), rfl⟩, S207_, H210_⟩
     ·have c197_fp : ¬ (kind = 1) := of_decide_eq_false c197_f
      omega
  ·have c100_fp : ¬ (((List.length (ints q.end_)) : Int) = 1) := of_decide_eq_false c100_f
   refine S_no (j := 3) (dj := 6) (b := false) rfl rfl (congrArg vB c100_f) (by decide) ?_
   refine S_no (j := 3) (dj := 6) (b := false) rfl rfl (congrArg vB c100_f) (by decide) ?_
   refine S_no (j := 3) (dj := 6) (b := false) rfl rfl (congrArg vB c100_f) (by decide) ?_
   refine S_no (j := 3) (dj := 6) (b := false) rfl rfl (congrArg vB c100_f) (by decide) ?_
   refine S_list (T_pickF (v := (vB false)) (congrArg vB c100_f) rfl ?_)
   refine sv (v := (vB false)) (x_assign rfl) ?_
   refine wpList_nil (X_then (hK99_ _ _ ?_))
   clear hK99_
   refine C_ret ?_
   refine R_any (v := (vB false)) (run_results1 rfl rfl) ⟨_, rfl, ?_⟩
   refine wpList_nil (X_then (hK97_ _ _ ?_))
   clear hK97_
   refine C_condF rfl ?_
   refine C_skip (X_then (hK96_ _ _ ?_))
   clear hK96_
   refine C_seq (fun K211_ hK211_ => C_reg ?_)
   refine sv (v := x) (x_move rfl) ?_
   refine sv (v := y) (x_move rfl) ?_
   refine S_list (T_callW (al := [x, y]) rfl rfl cb101 (Calls.into (n := 10) (al := [x, y]) Try.func101 rfl Try.ntmps101 rfl rfl ?_))
   refine C_seq (fun K212_ hK212_ => C_reg ?_)
   refine S_list (T_alloc z111 H20_ ?_)
   intro b213_ w214_ S216_ H215_
   have S217_ := Same.trans S23_ S216_
   refine wpList_nil (X_then (hK212_ _ _ ?_))
   clear hK212_
   refine C_seq (fun K218_ hK218_ => C_reg ?_)
   refine sv (v := x) (x_move rfl) ?_
   refine sv (v := (Value.iface 168 x)) (by kernel_rfl) ?_
   refine sv (v := y) (x_move rfl) ?_
   refine sv (v := (Value.iface 168 y)) (by kernel_rfl) ?_
   refine sv (v := (vA #[(Value.iface 168 x), (Value.iface 168 y)])) (by kernel_rfl) ?_
   refine S_list0 (T_storeN (vs := [(Value.iface 168 x), (Value.iface 168 y)]) rfl rfl z111 rfl (by simp [Value.oneCell']) H215_ 0 rfl (Nat.le_of_ble_eq_true (by rfl)) ?_)
   intro w219_ S221_ H220_
   have S222_ := Same.trans S217_ S221_
   refine wpList_nil (X_then (hK218_ _ _ ?_))
   clear hK218_
   refine C_ret ?_
   refine R_any (v := (vA #[(Value.iface 168 x), (Value.iface 168 y)])) (run_results1 rfl ⟨_, rfl, load_resN Try.underlying111 rfl z111 rfl (vs := [(Value.iface 168 x), (Value.iface 168 y)]) (Holds.cl_cells H220_ 0 rfl 0 rfl)⟩) ⟨_, rfl, ?_⟩
   refine S_list (T_alloc z111 H220_ ?_)
   intro b223_ w224_ S226_ H225_
   have S227_ := Same.trans S222_ S226_
   refine S_list0 (T_storeN (vs := [(Value.iface 168 x), (Value.iface 168 y)]) rfl rfl z111 rfl (by simp [Value.oneCell']) H225_ 0 rfl (Nat.le_of_ble_eq_true (by rfl)) ?_)
   intro w228_ S230_ H229_
   have S231_ := Same.trans S227_ S230_
   refine wpList_nil (X_then (hK211_ _ _ ?_))
   clear hK211_
   refine C_seq (fun K232_ hK232_ => ?_)
   refine C_seq (fun K233_ hK233_ => C_reg ?_)
   refine sv (v := (vI .i32 kind)) (x_move rfl) ?_
   refine wpList_nil (X_then (hK233_ _ _ ?_))
   clear hK233_
   refine C_block ?_
   refine C_seq (fun K234_ hK234_ => C_reg ?_)
   refine sv (v := (vB (decide (kind = 0)))) (x_bin rfl rfl rfl) ?_
   refine sv (v := (vB (decide (kind = 0)))) (x_assign rfl) ?_
   refine wpList_nil (X_then (hK234_ _ _ ?_))
   clear hK234_
   refine C_cond (b := decide (kind = 0)) rfl (fun c235_t => ?_) (fun c235_f => ?_)
   ·have c235_tp : kind = 0 := of_decide_eq_true c235_t
    refine C_seq (fun K236_ hK236_ => ?_)
    refine A_start (S := fun w => Rd b223_ [(Value.iface 168 x), (Value.iface 168 y)] w ∧ Rd u6_ [(Value.iface 186 (vQ t17_)), (Value.iface 186 (vQ t28_))] w ∧ Rd t17_ [(vQ (rt s19_ W115_)), (vI .i64 c111_), (vQ s19_)] w ∧ RtRd w (rt s19_ W115_) (rmx W115_) ∧ Rd t28_ [(vQ (rt s210_ W216_)), (vI .i64 c212_), (vQ s210_)] w ∧ RtRd w (rt s210_ W216_) (rmx W216_) ∧ Sub R4_ (hp w)) (N := 7) foll rfl rfl ?_
    have H237_ := Holds.drew_ H229_
    have hq238_ := And.intro (Holds.rd H237_ 0 rfl) (And.intro (Holds.rd H237_ 3 rfl) (And.intro (Holds.rd H237_ 4 rfl) (And.intro (Holds.tr_rd H237_ 5 rfl 6 rfl) (And.intro (Holds.rd H237_ 7 rfl) (And.intro (Holds.tr_rd H237_ 8 rfl 9 rfl) ((Holds.ro_at H237_ 2 rfl)))))))
    refine A_tk 0 (v := (vQ u6_)) rfl (by kernel_rfl) (fun w hS => x_move rfl) hq238_ ?_
    refine A_tk 1 (v := (vQ u6_)) rfl (by kernel_rfl) (fun w hS => by kernel_rfl) hq238_ ?_
    refine A_tk 2 (v := (vQ u6_)) rfl (by kernel_rfl) (fun w hS => by kernel_rfl) hq238_ ?_
    refine A_tk 3 (v := (Value.iface 186 (vQ t17_))) rfl (by kernel_rfl) (fun w hS => x_load1 rfl Try.underlying101 rfl (hS.2.1 0 (Value.iface 186 (vQ t17_)) rfl)) hq238_ ?_
    refine A_tk 4 (v := (vA #[(Value.iface 168 x), (Value.iface 168 y)])) rfl (by kernel_rfl) (fun w hS => x_loadN (vs := [(Value.iface 168 x), (Value.iface 168 y)]) rfl Try.underlying111 rfl z111 rfl (Rd.cells hS.1 0 rfl)) hq238_ ?_
    refine A_ready (i := 5) (rs := []) (by kernel_rfl) ?_
    refine AllR.cons ?_ AllR.nil
    have H240_ := ((Holds.bring (Holds.bring (Holds.bring (Holds.bring H237_ 6 rfl) 6 rfl) 6 rfl) 5 rfl) :)
    refine A_op (ls' := #[true, true, true, true, true, true, false]) rfl (by kernel_rfl) (T_invoke (al := [(vQ t17_), (vA #[((Value.iface 168 x)), ((Value.iface 168 y))])]) (pre := [cl t17_ 188 [(vQ (rt s19_ W115_)), (vI .i64 c111_), (vQ s19_)], tr s19_ s19_ W115_, clf s19_ 185 z113_]) rfl (fun w => by kernel_rfl) (lcons rfl (lcons (congrArg (fun l => vA (List.toArray l)) (lcons (rfl : (Value.iface 168 x) = ((Value.iface 168 x))) (lcons (rfl : (Value.iface 168 y) = ((Value.iface 168 y))) rfl))) rfl)) cb143 (itContains R4_ (List UInt8) BO t17_ s19_ c111_ z113_ W115_ 168 168 x y q.lo q.hi ((he17_).ok.1) (⟨x, ints q.key, rfl, (RS.mono hx hs3_), (u8s_ints q.key).symm⟩) (⟨y, ints q.end_, rfl, (RS.mono hy hs3_), (PM.hi_end (by omega) (by first | exact bytes_len (by omega) | exact bytes_not rfl (by omega))).trans (u8s_ints q.end_).symm⟩)) H240_ ?_)
    rintro v239_ p244_ w241_ ⟨rfl, rfl⟩ S243_ H242_
    have S245_ := Same.trans (Same.trans S231_ (Same.drew _)) S243_
    refine ⟨⟨Holds.rd H242_ 4 rfl, Holds.rd H242_ 6 rfl, Holds.rd H242_ 1 rfl, Holds.tr_rd H242_ 2 rfl 3 rfl, Holds.rd H242_ 7 rfl, Holds.tr_rd H242_ 8 rfl 9 rfl, (Holds.ro_at H242_ 0 rfl)⟩, ?_⟩
    have hq246_ := And.intro (Holds.rd H242_ 4 rfl) (And.intro (Holds.rd H242_ 6 rfl) (And.intro (Holds.rd H242_ 1 rfl) (And.intro (Holds.tr_rd H242_ 2 rfl 3 rfl) (And.intro (Holds.rd H242_ 7 rfl) (And.intro (Holds.tr_rd H242_ 8 rfl 9 rfl) ((Holds.ro_at H242_ 0 rfl)))))))
    refine A_tk 6 (v := (vB ((vis BO (CS.step BO) q.lo q.hi W115_ (⟨none, true⟩ : CS (List UInt8))).1.yes BO q.lo q.hi))) rfl (by kernel_rfl) (fun w hS => x_assign rfl) hq246_ ?_
    refine A_done (by kernel_rfl) ?_
    refine (X_then (hK236_ _ _ ?_))
    clear hK236_
    refine C_ret (X_blkR (X_thenR ?_))
    refine R_any (v := (vB ((vis BO (CS.step BO) q.lo q.hi W115_ (⟨none, true⟩ : CS (List UInt8))).1.yes BO q.lo q.hi))) (run_results1 rfl rfl) ⟨_, rfl, ?_⟩
    refine sv (v := (vB ((vis BO (CS.step BO) q.lo q.hi W115_ (⟨none, true⟩ : CS (List UInt8))).1.yes BO q.lo q.hi))) (x_assign rfl) ?_
    refine wpList_nil (X_then (hK94_ _ _ ?_))
    clear hK94_
    refine C_ret ?_
    refine R_any (v := (vB ((vis BO (CS.step BO) q.lo q.hi W115_ (⟨none, true⟩ : CS (List UInt8))).1.yes BO q.lo q.hi))) (run_results1 rfl rfl) ?_
    have H247_ : Holds w241_ (ro R :: cl t17_ 188 [(vQ (rt s19_ W115_)), (vI .i64 c111_), (vQ s19_)] :: tr s19_ s19_ W115_ :: clf s19_ 185 z113_ :: cl b223_ 111 [(Value.iface 168 x), (Value.iface 168 y)] :: cl b213_ 111 [(Value.iface 168 x), (Value.iface 168 y)] :: cl u6_ 250 [(Value.iface 186 (vQ t17_)), (Value.iface 186 (vQ t28_))] :: cl t28_ 188 [(vQ (rt s210_ W216_)), (vI .i64 c212_), (vQ s210_)] :: tr s210_ s210_ W216_ :: clf s210_ 185 z214_ :: F) := Holds.ro_less H242_ hs3_
    have H248_ : Holds w241_ (ro R :: F) := (Holds.pkF H247_ [0] 9 :)
    exact ⟨_, _, rfl, ⟨(congrArg vB ((by rw [show kind = 0 by omega]; exact permits_iv he17_ hl hq (by omega)) : ((vis BO (CS.step BO) q.lo q.hi W115_ (⟨none, true⟩ : CS (List UInt8))).1.yes BO q.lo q.hi) = (permits l q kind))), rfl⟩, S245_, H248_⟩
   ·have c235_fp : ¬ (kind = 0) := of_decide_eq_false c235_f
    refine C_seq (fun K249_ hK249_ => C_reg ?_)
    refine sv (v := (vB (decide (kind = 1)))) (x_bin rfl rfl rfl) ?_
    refine sv (v := (vB (decide (kind = 1)))) (x_assign rfl) ?_
    refine wpList_nil (X_then (hK249_ _ _ ?_))
    clear hK249_
    refine C_cond (b := decide (kind = 1)) rfl (fun c250_t => ?_) (fun c250_f => ?_)
    ·have c250_tp : kind = 1 := of_decide_eq_true c250_t
     refine C_seq (fun K251_ hK251_ => ?_)
     refine A_start (S := fun w => Rd b223_ [(Value.iface 168 x), (Value.iface 168 y)] w ∧ Rd u6_ [(Value.iface 186 (vQ t17_)), (Value.iface 186 (vQ t28_))] w ∧ Rd t17_ [(vQ (rt s19_ W115_)), (vI .i64 c111_), (vQ s19_)] w ∧ RtRd w (rt s19_ W115_) (rmx W115_) ∧ Rd t28_ [(vQ (rt s210_ W216_)), (vI .i64 c212_), (vQ s210_)] w ∧ RtRd w (rt s210_ W216_) (rmx W216_) ∧ Sub R4_ (hp w)) (N := 7) foll rfl rfl ?_
     have H252_ := Holds.drew_ H229_
     have hq253_ := And.intro (Holds.rd H252_ 0 rfl) (And.intro (Holds.rd H252_ 3 rfl) (And.intro (Holds.rd H252_ 4 rfl) (And.intro (Holds.tr_rd H252_ 5 rfl 6 rfl) (And.intro (Holds.rd H252_ 7 rfl) (And.intro (Holds.tr_rd H252_ 8 rfl 9 rfl) ((Holds.ro_at H252_ 2 rfl)))))))
     refine A_tk 0 (v := (vQ u6_)) rfl (by kernel_rfl) (fun w hS => x_move rfl) hq253_ ?_
     refine A_tk 1 (v := (vQ u6_)) rfl (by kernel_rfl) (fun w hS => by kernel_rfl) hq253_ ?_
     refine A_tk 2 (v := (vP (some ⟨u6_, 1, none⟩))) rfl (by kernel_rfl) (fun w hS => by kernel_rfl) hq253_ ?_
     refine A_tk 3 (v := (Value.iface 186 (vQ t28_))) rfl (by kernel_rfl) (fun w hS => x_load1 rfl Try.underlying101 rfl (hS.2.1 1 (Value.iface 186 (vQ t28_)) rfl)) hq253_ ?_
     refine A_tk 4 (v := (vA #[(Value.iface 168 x), (Value.iface 168 y)])) rfl (by kernel_rfl) (fun w hS => x_loadN (vs := [(Value.iface 168 x), (Value.iface 168 y)]) rfl Try.underlying111 rfl z111 rfl (Rd.cells hS.1 0 rfl)) hq253_ ?_
     refine A_ready (i := 5) (rs := []) (by kernel_rfl) ?_
     refine AllR.cons ?_ AllR.nil
     have H255_ := ((Holds.bring (Holds.bring (Holds.bring (Holds.bring H252_ 9 rfl) 9 rfl) 9 rfl) 5 rfl) :)
     refine A_op (ls' := #[true, true, true, true, true, true, false]) rfl (by kernel_rfl) (T_invoke (al := [(vQ t28_), (vA #[((Value.iface 168 x)), ((Value.iface 168 y))])]) (pre := [cl t28_ 188 [(vQ (rt s210_ W216_)), (vI .i64 c212_), (vQ s210_)], tr s210_ s210_ W216_, clf s210_ 185 z214_]) rfl (fun w => by kernel_rfl) (lcons rfl (lcons (congrArg (fun l => vA (List.toArray l)) (lcons (rfl : (Value.iface 168 x) = ((Value.iface 168 x))) (lcons (rfl : (Value.iface 168 y) = ((Value.iface 168 y))) rfl))) rfl)) cb143 (itContains R4_ (List UInt8) BO t28_ s210_ c212_ z214_ W216_ 168 168 x y q.lo q.hi ((he18_).ok.1) (⟨x, ints q.key, rfl, (RS.mono hx hs3_), (u8s_ints q.key).symm⟩) (⟨y, ints q.end_, rfl, (RS.mono hy hs3_), (PM.hi_end (by omega) (by first | exact bytes_len (by omega) | exact bytes_not rfl (by omega))).trans (u8s_ints q.end_).symm⟩)) H255_ ?_)
     rintro v254_ p259_ w256_ ⟨rfl, rfl⟩ S258_ H257_
     have S260_ := Same.trans (Same.trans S231_ (Same.drew _)) S258_
     refine ⟨⟨Holds.rd H257_ 4 rfl, Holds.rd H257_ 6 rfl, Holds.rd H257_ 7 rfl, Holds.tr_rd H257_ 8 rfl 9 rfl, Holds.rd H257_ 1 rfl, Holds.tr_rd H257_ 2 rfl 3 rfl, (Holds.ro_at H257_ 0 rfl)⟩, ?_⟩
     have hq261_ := And.intro (Holds.rd H257_ 4 rfl) (And.intro (Holds.rd H257_ 6 rfl) (And.intro (Holds.rd H257_ 7 rfl) (And.intro (Holds.tr_rd H257_ 8 rfl 9 rfl) (And.intro (Holds.rd H257_ 1 rfl) (And.intro (Holds.tr_rd H257_ 2 rfl 3 rfl) ((Holds.ro_at H257_ 0 rfl)))))))
     refine A_tk 6 (v := (vB ((vis BO (CS.step BO) q.lo q.hi W216_ (⟨none, true⟩ : CS (List UInt8))).1.yes BO q.lo q.hi))) rfl (by kernel_rfl) (fun w hS => x_assign rfl) hq261_ ?_
     refine A_done (by kernel_rfl) ?_
     refine (X_then (hK251_ _ _ ?_))
     clear hK251_
     refine C_ret (X_blkR (X_thenR ?_))
     refine R_any (v := (vB ((vis BO (CS.step BO) q.lo q.hi W216_ (⟨none, true⟩ : CS (List UInt8))).1.yes BO q.lo q.hi))) (run_results1 rfl rfl) ⟨_, rfl, ?_⟩
     refine sv (v := (vB ((vis BO (CS.step BO) q.lo q.hi W216_ (⟨none, true⟩ : CS (List UInt8))).1.yes BO q.lo q.hi))) (x_assign rfl) ?_
     refine wpList_nil (X_then (hK94_ _ _ ?_))
     clear hK94_
     refine C_ret ?_
     refine R_any (v := (vB ((vis BO (CS.step BO) q.lo q.hi W216_ (⟨none, true⟩ : CS (List UInt8))).1.yes BO q.lo q.hi))) (run_results1 rfl rfl) ?_
     have H262_ : Holds w256_ (ro R :: cl t28_ 188 [(vQ (rt s210_ W216_)), (vI .i64 c212_), (vQ s210_)] :: tr s210_ s210_ W216_ :: clf s210_ 185 z214_ :: cl b223_ 111 [(Value.iface 168 x), (Value.iface 168 y)] :: cl b213_ 111 [(Value.iface 168 x), (Value.iface 168 y)] :: cl u6_ 250 [(Value.iface 186 (vQ t17_)), (Value.iface 186 (vQ t28_))] :: cl t17_ 188 [(vQ (rt s19_ W115_)), (vI .i64 c111_), (vQ s19_)] :: tr s19_ s19_ W115_ :: clf s19_ 185 z113_ :: F) := Holds.ro_less H257_ hs3_
     have H263_ : Holds w256_ (ro R :: F) := (Holds.pkF H262_ [0] 9 :)
     exact ⟨_, _, rfl, ⟨(congrArg vB ((by rw [show kind = 1 by omega]; exact permits_iv he18_ hl hq (by omega)) : ((vis BO (CS.step BO) q.lo q.hi W216_ (⟨none, true⟩ : CS (List UInt8))).1.yes BO q.lo q.hi) = (permits l q kind))), rfl⟩, S260_, H263_⟩
    ·have c250_fp : ¬ (kind = 1) := of_decide_eq_false c250_f
     omega
end Go.Proofs.Ytlnihndjepjagaa
set_option linter.unusedVariables false
set_option linter.unusedSimpArgs false
namespace Go.Proofs.Ytlnihndjepjagaa
open Go Go.RowKit Gw
open Go.Value renaming int → vI, bool → vB, slice → vS, pointer → vP, agg → vA, tuple → vT

theorem PermAt.all {R R' : HP} (s : Sub R R') {C : List Nat} {l : List PM} (h : All2 (PermAt R) C l) : All2 (PermAt R') C l := h.mono fun _ _ h => h.mono s

set_option maxHeartbeats 8000000 in
theorem prPermits (R : HP) (v : Value) (l : List PM) (key end_ : ByteArray) (kind : Int) (hv : RS R 3 v (List.length l) (l.flatMap PM.cells)) (hl : ∀ p ∈ l, PmOk p) (hn : l.length ≤ 1000) (hq : PmOk ⟨kind, key, end_⟩) (hk : kind = 0 ∨ kind = 1) :
    Tri Try.prog 26 #[v, (Value.string key), (Value.string end_), (vI .i64 kind)] R [] (fun v__ post__ => v__ = (vB (permits l ⟨kind, key, end_⟩ kind)) ∧ post__ = []) := by
 have hq1_ := hq.s1
 have hq2_ := hq.s2
 refine Tri.into (n := 39) (al := [v, (Value.string key), (Value.string end_), (vI .i64 kind)]) Try.func26 rfl Try.ntmps26 rfl rfl fun w F H => ?_
 refine C_seq (fun K1_ hK1_ => C_reg ?_)
 refine sv (v := (vB false)) (x_assign rfl) ?_
 refine wpList_nil (X_then (hK1_ _ _ ?_))
 clear hK1_
 refine C_seq (fun K2_ hK2_ => C_reg ?_)
 refine sv (v := (vS none 0 0)) (x_assign rfl) ?_
 refine wpList_nil (X_then (hK2_ _ _ ?_))
 clear hK2_
 refine C_seq (fun K3_ hK3_ => ?_)
 refine C_seq (fun K4_ hK4_ => C_reg ?_)
 refine sv (v := (vI .i64 0)) (x_assign rfl) ?_
 refine wpList_nil (X_then (hK4_ _ _ ?_))
 clear hK4_
 refine C_block ?_
 have H5_ : Holds w (sl 119 1 (vS none 0 0) (List.length ([] : List Nat)) (([] : List Nat).map pv) :: ro R :: F) := Holds.add_nil H 119 1
 refine C_loop (γ := HP × Nat × Value × (List Nat)) (fun x__ a__ w1__ => match x__ with | ⟨R1, k, cv, C⟩ => ∃ h : Env, a__ = mkA 39 (upd (upd (upd (upd (upd (upd (upd h 0 v) 1 (Value.string key)) 2 (Value.string end_)) 3 (vI .i64 kind)) 8 (vB false)) 9 cv) 10 (vI .i64 (k : Int))) [] ∧ Holds w1__ (sl 119 1 cv (List.length C) (C.map pv) :: ro R1 :: F) ∧ Same w w1__ ∧ (Sub R R1) ∧ (k ≤ l.length) ∧ (C.length = k) ∧ (All2 (PermAt R1) C (l.take k))) (fun x__ => match x__ with | ⟨R1, k, cv, C⟩ => l.length - k) (⟨R, 0, (vS none 0 0), ([] : List Nat)⟩) ⟨_, congrArg (fun e => mkA 39 e []) (ch (ch (ch (ch (ch (ch (ch rfl rfl) rfl) rfl) rfl) rfl) (rfl : (vS none 0 0) = ((vS none 0 0)))) (congrArg (vI .i64) ((by first | rfl | omega | (simp; done) | (simp; omega)) : 0 = (0 : Int)))), H5_, (Same.refl w), (Sub.rfl' _), (by first | assumption | omega | exact rfl), (rfl), (All2.nil)⟩ ?_
 rintro ⟨R1, k, cv, C⟩ _ w6_ ⟨h, rfl, H7_, S8_, hsR1, hkk, hCl, hC⟩
 refine C_seq (fun K9_ hK9_ => ?_)
 refine C_seq (fun K10_ hK10_ => C_reg ?_)
 refine sv (v := (vI .i64 (k : Int))) (x_move rfl) ?_
 refine sv (v := v) (x_move rfl) ?_
 refine sv (v := (vI .i64 ((List.length l) : Int))) (x_lenRS rfl (RS.mono hv hsR1) Try.underlying46) ?_
 refine sv (v := (vB (decide ((k : Int) < ((List.length l) : Int))))) (x_bin rfl rfl rfl) ?_
 refine wpList_nil (X_then (hK10_ _ _ ?_))
 clear hK10_
 refine C_cond (b := decide ((k : Int) < ((List.length l) : Int))) rfl (fun c11_t => ?_) (fun c11_f => ?_)
 ·have c11_tp : (k : Int) < ((List.length l) : Int) := of_decide_eq_true c11_t
  refine C_skip (X_then (hK9_ _ _ ?_))
  clear hK9_
  refine C_seq (fun K12_ hK12_ => ?_)
  refine C_block ?_
  refine C_reg ?_
  refine sv (v := cv) (x_move rfl) ?_
  refine sv (v := v) (x_move rfl) ?_
  refine sv (v := (vI .i64 (k : Int))) (x_move rfl) ?_
  obtain ⟨x13_, hx14_, hm15_⟩ := elem_at l k (by omega)
  have hp16_ := hl x13_ hm15_
  have hpo_ := hl x13_ hm15_
  refine sv (v := (vP (some ⟨(sb v), so v + (k * 3 + 0), none⟩))) (x_idxRS (v := v) rfl (RS.mono hv hsR1) rfl Try.underlying46 z51 (by omega) (by omega) (by omega : _ = k) rfl) ?_
  refine sv (v := (vA #[(vI .i64 x13_.kind), (Value.string x13_.key), (Value.string x13_.end_)])) (x_loadN (vs := [(vI .i64 x13_.kind), (Value.string x13_.key), (Value.string x13_.end_)]) rfl Try.underlying51 rfl z51 rfl (RC.cells (RS.rc (RS.mono hv hsR1)) (Holds.ro_at H7_ 1 rfl) (k * 3 + 0) (fm_cells PM.len hx14_ (i := 0) rfl))) ?_
  have H22_ := ((Holds.bring H7_ 1 rfl) :)
  refine S_list (T_callG (al := [(vA #[(vI .i64 x13_.kind), (Value.string x13_.key), (Value.string x13_.end_)])]) (pre := []) rfl rfl cb56 (pmIn R1 x13_ (hpo_)) H22_ ?_)
  rintro R18_ v19_ p26_ w23_ hs17_ ⟨b20_, rfl, rfl, he21_⟩ S25_ H24_
  have S27_ := Same.trans S8_ S25_
  have hz_R_R18_ := Sub.trans' hsR1 hs17_
  refine S_list (T_new (obj := .cells #[(vQ b20_)] 119) (f := fun b__ => .slice (some ⟨b__, 0, none⟩) 1 1) (A := fun b__ => cl b__ 119 [(vQ b20_)]) (by kernel_rfl) (fun l h => h.alloc _ _) H24_ ?_)
  intro b28_ w29_ S31_ H30_
  have S32_ := Same.trans S27_ S31_
  refine S_list (T_append rfl rfl Try.underlying118 z119 rfl (by decide) H30_ 2 rfl (Holds.cl_src H30_ 0 rfl Try.underlying118 (by simp [Value.oneCell']) rfl) (by first | omega | (simp only [List.length_append, List.length_cons, List.length_nil]; omega)) ?_)
  intro v33_ w34_ S36_ H35_
  have S37_ := Same.trans S32_ S36_
  refine sv (v := v33_) (x_assign rfl) ?_
  refine wpList_nil (X_blkN (X_then (hK12_ _ _ ?_)))
  clear hK12_
  refine C_reg ?_
  refine sv (v := (vI .i64 (k : Int))) (x_move rfl) ?_
  refine sv (v := (vI .i64 ((k : Int) + 1))) (x_bin rfl rfl (ib_add (IntWalk.i64_in _ (by omega)))) ?_
  refine sv (v := (vI .i64 ((k : Int) + 1))) (x_assign rfl) ?_
  refine wpList_nil (X_then ?_)
  have H38_ := Holds.resl H35_ 2 rfl (by rw [List.map_append]; rfl : (C.map pv) ++ [(vQ b20_)] = (C ++ [b20_]).map pv) (by rw [List.length_append]; rfl : (List.length C) + 1 = (List.length (C ++ [b20_])))
  have H39_ : Holds w34_ (sl 119 1 v33_ (List.length (C ++ [b20_])) ((C ++ [b20_]).map pv) :: ro R18_ :: F) := (Holds.pkF H38_ [2, 1] 1 :)
  exact ⟨⟨R18_, k + 1, v33_, (C ++ [b20_])⟩, ⟨_, congrArg (fun e => mkA 39 e []) (ch (ch (ch (ch (ch (ch (ch rfl rfl) rfl) rfl) rfl) rfl) rfl) (congrArg (vI .i64) ((by first | rfl | omega | (simp; done) | (simp; omega)) : (k : Int) + 1 = ((k + 1 : Nat) : Int)))), H39_, S37_, (hz_R_R18_), (by first | assumption | omega | exact rfl), (by rw [List.length_append, hCl]; rfl), (All2.snoc (PermAt.all hs17_ hC) hx14_ he21_)⟩, by first | omega | (dsimp only; omega) | (simp; omega)⟩
 ·have c11_fp : ¬ ((k : Int) < ((List.length l) : Int)) := of_decide_eq_false c11_f
  refine C_exit (X_thenX (X_thenX (X_blkHit ?_)))
  refine (X_then (hK3_ _ _ ?_))
  clear hK3_
  refine C_seq (fun K40_ hK40_ => ?_)
  refine C_seq (fun K41_ hK41_ => C_reg ?_)
  refine sv (v := (vI .i64 kind)) (x_move rfl) ?_
  refine sv (v := (vB (decide (kind ≠ 0)))) (x_bin rfl rfl rfl) ?_
  refine sv (v := (vB (decide (kind ≠ 0)))) (x_move rfl) ?_
  rcases Bool.eq_false_or_eq_true (decide (kind ≠ 0)) with c42_t | c42_f
  ·have c42_tp : kind ≠ 0 := of_decide_eq_true c42_t
   refine S_yes (j := 2) (dj := 27) (b := true) rfl rfl (congrArg vB c42_t) (T_val (v := (vI .i64 kind)) (x_move rfl) ?_)
   refine S_yes (j := 2) (dj := 27) (b := true) rfl rfl (congrArg vB c42_t) (T_val (v := (vB (decide (kind ≠ 1)))) (x_bin rfl rfl rfl) ?_)
   refine S_list (T_pickT (v := (vB (decide (kind ≠ 1)))) (congrArg vB c42_t) rfl ?_)
   refine wpList_nil (X_then (hK41_ _ _ ?_))
   clear hK41_
   refine C_cond (b := decide (kind ≠ 1)) rfl (fun c43_t => ?_) (fun c43_f => ?_)
   ·have c43_tp : kind ≠ 1 := of_decide_eq_true c43_t
    refine C_seq (fun K44_ hK44_ => C_reg ?_)
    refine sv (v := (vB false)) (x_assign rfl) ?_
    refine wpList_nil (X_then (hK44_ _ _ ?_))
    clear hK44_
    refine C_ret (X_thenR ?_)
    refine R_any (v := (vB false)) (run_results1 rfl rfl) ?_
    have H45_ := ((Holds.bring H7_ 1 rfl) :)
    have H46_ : Holds w6_ (ro R :: sl 119 1 cv (List.length C) (C.map pv) :: F) := Holds.ro_less H45_ hsR1
    have H47_ : Holds w6_ (ro R :: F) := (Holds.pkF H46_ [0] 1 :)
    exact ⟨_, _, rfl, ⟨(congrArg vB ((by first | rfl | omega | (simp; done) | (simp; omega)) : false = (permits l ⟨kind, key, end_⟩ kind))), rfl⟩, S8_, H47_⟩
   ·have c43_fp : ¬ (kind ≠ 1) := of_decide_eq_false c43_f
    refine C_skip (X_then (hK40_ _ _ ?_))
    clear hK40_
    refine C_seq (fun K48_ hK48_ => C_reg ?_)
    have H49_ := ((Holds.bring H7_ 1 rfl) :)
    obtain ⟨R50_, hs51_, ⟨R52_, ha53_, hs54_⟩, H55_⟩ := Holds.gift H49_
    have hz_R_R50_ := Sub.trans' hsR1 hs51_
    have hr56_ : RS R50_ 1 cv (List.length C) (C.map pv) := (sl_RS ha53_ (Sub.rfl' _)).mono hs54_
    have hA_ : All2 (PermAt R50_) C l := by rw [List.take_of_length_le (by omega)] at hC; exact PermAt.all hs51_ hC
    obtain ⟨va_, vc_, ecv_, _⟩ := RS.len hr56_
    subst ecv_
    ·skip
     refine sv (v := (vS va_ (List.length C) vc_)) (x_move rfl) ?_
     refine sv (v := (Value.string key)) (x_move rfl) ?_
     refine S_list (T_s2b rfl Try.underlying9 Try.underlying122 Try.underlying5 H55_ ?_)
     intro b57_ cp58_ w59_ S61_ hc62_ H60_
     have S63_ := Same.trans S8_ S61_
     have H64_ := Holds.resl H60_ 0 rfl (byteCells_bytesV _ : byteCells key = bytesV (ints key)) rfl
     have H65_ := Holds.resl H64_ 0 rfl (rfl : bytesV (ints key) = bytesV (ints key)) ((ints_length _).symm : key.size = (List.length (ints key)))
     refine sv (v := (Value.string end_)) (x_move rfl) ?_
     refine S_list (T_s2b rfl Try.underlying9 Try.underlying122 Try.underlying5 H65_ ?_)
     intro b66_ cp67_ w68_ S70_ hc71_ H69_
     have S72_ := Same.trans S63_ S70_
     have H73_ := Holds.resl H69_ 0 rfl (byteCells_bytesV _ : byteCells end_ = bytesV (ints end_)) rfl
     have H74_ := Holds.resl H73_ 0 rfl (rfl : bytesV (ints end_) = bytesV (ints end_)) ((ints_length _).symm : end_.size = (List.length (ints end_)))
     refine sv (v := (vI .i64 kind)) (x_move rfl) ?_
     refine sv (v := (vI .i32 (IntKind.i32.wrap kind))) (x_convI rfl Try.underlying3 Try.underlying123 rfl) ?_
     have H75_ := ((Holds.bring (Holds.bring H74_ 1 rfl) 2 rfl) :)
     obtain ⟨R76_, hs77_, ⟨R78_, ha79_, hs80_⟩, H81_⟩ := Holds.gift H75_
     have hz_R_R76_ := Sub.trans' hz_R_R50_ hs77_
     have hz_R1_R76_ := Sub.trans' hs51_ hs77_
     have hr82_ : RS R76_ 1 (vS (some ⟨b57_, 0, none⟩) key.size cp58_) (List.length (ints key)) (bytesV (ints key)) := (sl_RS ha79_ (Sub.rfl' _)).mono hs80_
     obtain ⟨R83_, hs84_, ⟨R85_, ha86_, hs87_⟩, H88_⟩ := Holds.gift H81_
     have hz_R_R83_ := Sub.trans' hz_R_R76_ hs84_
     have hz_R1_R83_ := Sub.trans' hz_R1_R76_ hs84_
     have hz_R50__R83_ := Sub.trans' hs77_ hs84_
     have hr89_ : RS R83_ 1 (vS (some ⟨b66_, 0, none⟩) end_.size cp67_) (List.length (ints end_)) (bytesV (ints end_)) := (sl_RS ha86_ (Sub.rfl' _)).mono hs87_
     refine S_list (T_call (al := [(vS va_ (List.length C) vc_), ((vS (some ⟨b57_, 0, none⟩) key.size cp58_)), ((vS (some ⟨b66_, 0, none⟩) end_.size cp67_)), (vI .i32 kind)]) (pre := []) rfl (lcons rfl (lcons (rfl : (vS (some ⟨b57_, 0, none⟩) key.size cp58_) = ((vS (some ⟨b57_, 0, none⟩) key.size cp58_))) (lcons (rfl : (vS (some ⟨b66_, 0, none⟩) end_.size cp67_) = ((vS (some ⟨b66_, 0, none⟩) end_.size cp67_))) (lcons (congrArg (vI .i32) ((IntWalk.i32_in _ (by omega)) : IntKind.i32.wrap kind = kind)) rfl)))) cb57 (zzPermits R83_ va_ vc_ C l (vS (some ⟨b57_, 0, none⟩) key.size cp58_) (vS (some ⟨b66_, 0, none⟩) end_.size cp67_) ⟨kind, key, end_⟩ kind (RS.mono hr56_ hz_R50__R83_) ((PermAt.all hz_R50__R83_ hA_)) (hl) (by first | assumption | omega) (RS.set_ (RS.mono hr82_ hs84_) (by first | rfl | (simp [RQ.cells, CM.cells, RT.cells, PM.cells]; done)) (by first | rfl | omega | (simp; done) | (simp; omega))) (RS.set_ hr89_ (by first | rfl | (simp [RQ.cells, CM.cells, RT.cells, PM.cells]; done)) (by first | rfl | omega | (simp; done) | (simp; omega))) (hq) (hk)) H88_ ?_)
     rintro v90_ p94_ w91_ ⟨rfl, rfl⟩ S93_ H92_
     have S95_ := Same.trans S72_ S93_
     refine sv (v := (vB (permits l ⟨kind, key, end_⟩ kind))) (x_assign rfl) ?_
     refine wpList_nil (X_then (hK48_ _ _ ?_))
     clear hK48_
     refine C_ret ?_
     refine R_any (v := (vB (permits l ⟨kind, key, end_⟩ kind))) (run_results1 rfl rfl) ?_
     have H96_ : Holds w91_ (ro R :: F) := Holds.ro_less H92_ hz_R_R83_
     exact ⟨_, _, rfl, ⟨rfl, rfl⟩, S95_, H96_⟩
  ·have c42_fp : ¬ (kind ≠ 0) := of_decide_eq_false c42_f
   refine S_no (j := 2) (dj := 27) (b := false) rfl rfl (congrArg vB c42_f) (by decide) ?_
   refine S_no (j := 2) (dj := 27) (b := false) rfl rfl (congrArg vB c42_f) (by decide) ?_
   refine S_list (T_pickF (v := (vB false)) (congrArg vB c42_f) rfl ?_)
   refine wpList_nil (X_then (hK41_ _ _ ?_))
   clear hK41_
   refine C_condF rfl ?_
   refine C_skip (X_then (hK40_ _ _ ?_))
   clear hK40_
   refine C_seq (fun K97_ hK97_ => C_reg ?_)
   have H98_ := ((Holds.bring H7_ 1 rfl) :)
   obtain ⟨R99_, hs100_, ⟨R101_, ha102_, hs103_⟩, H104_⟩ := Holds.gift H98_
   have hz_R_R99_ := Sub.trans' hsR1 hs100_
   have hr105_ : RS R99_ 1 cv (List.length C) (C.map pv) := (sl_RS ha102_ (Sub.rfl' _)).mono hs103_
   have hA_ : All2 (PermAt R99_) C l := by rw [List.take_of_length_le (by omega)] at hC; exact PermAt.all hs100_ hC
   obtain ⟨va_, vc_, ecv_, _⟩ := RS.len hr105_
   subst ecv_
   ·skip
    refine sv (v := (vS va_ (List.length C) vc_)) (x_move rfl) ?_
    refine sv (v := (Value.string key)) (x_move rfl) ?_
    refine S_list (T_s2b rfl Try.underlying9 Try.underlying122 Try.underlying5 H104_ ?_)
    intro b106_ cp107_ w108_ S110_ hc111_ H109_
    have S112_ := Same.trans S8_ S110_
    have H113_ := Holds.resl H109_ 0 rfl (byteCells_bytesV _ : byteCells key = bytesV (ints key)) rfl
    have H114_ := Holds.resl H113_ 0 rfl (rfl : bytesV (ints key) = bytesV (ints key)) ((ints_length _).symm : key.size = (List.length (ints key)))
    refine sv (v := (Value.string end_)) (x_move rfl) ?_
    refine S_list (T_s2b rfl Try.underlying9 Try.underlying122 Try.underlying5 H114_ ?_)
    intro b115_ cp116_ w117_ S119_ hc120_ H118_
    have S121_ := Same.trans S112_ S119_
    have H122_ := Holds.resl H118_ 0 rfl (byteCells_bytesV _ : byteCells end_ = bytesV (ints end_)) rfl
    have H123_ := Holds.resl H122_ 0 rfl (rfl : bytesV (ints end_) = bytesV (ints end_)) ((ints_length _).symm : end_.size = (List.length (ints end_)))
    refine sv (v := (vI .i64 kind)) (x_move rfl) ?_
    refine sv (v := (vI .i32 (IntKind.i32.wrap kind))) (x_convI rfl Try.underlying3 Try.underlying123 rfl) ?_
    have H124_ := ((Holds.bring (Holds.bring H123_ 1 rfl) 2 rfl) :)
    obtain ⟨R125_, hs126_, ⟨R127_, ha128_, hs129_⟩, H130_⟩ := Holds.gift H124_
    have hz_R_R125_ := Sub.trans' hz_R_R99_ hs126_
    have hz_R1_R125_ := Sub.trans' hs100_ hs126_
    have hr131_ : RS R125_ 1 (vS (some ⟨b106_, 0, none⟩) key.size cp107_) (List.length (ints key)) (bytesV (ints key)) := (sl_RS ha128_ (Sub.rfl' _)).mono hs129_
    obtain ⟨R132_, hs133_, ⟨R134_, ha135_, hs136_⟩, H137_⟩ := Holds.gift H130_
    have hz_R_R132_ := Sub.trans' hz_R_R125_ hs133_
    have hz_R1_R132_ := Sub.trans' hz_R1_R125_ hs133_
    have hz_R99__R132_ := Sub.trans' hs126_ hs133_
    have hr138_ : RS R132_ 1 (vS (some ⟨b115_, 0, none⟩) end_.size cp116_) (List.length (ints end_)) (bytesV (ints end_)) := (sl_RS ha135_ (Sub.rfl' _)).mono hs136_
    refine S_list (T_call (al := [(vS va_ (List.length C) vc_), ((vS (some ⟨b106_, 0, none⟩) key.size cp107_)), ((vS (some ⟨b115_, 0, none⟩) end_.size cp116_)), (vI .i32 kind)]) (pre := []) rfl (lcons rfl (lcons (rfl : (vS (some ⟨b106_, 0, none⟩) key.size cp107_) = ((vS (some ⟨b106_, 0, none⟩) key.size cp107_))) (lcons (rfl : (vS (some ⟨b115_, 0, none⟩) end_.size cp116_) = ((vS (some ⟨b115_, 0, none⟩) end_.size cp116_))) (lcons (congrArg (vI .i32) ((IntWalk.i32_in _ (by omega)) : IntKind.i32.wrap kind = kind)) rfl)))) cb57 (zzPermits R132_ va_ vc_ C l (vS (some ⟨b106_, 0, none⟩) key.size cp107_) (vS (some ⟨b115_, 0, none⟩) end_.size cp116_) ⟨kind, key, end_⟩ kind (RS.mono hr105_ hz_R99__R132_) ((PermAt.all hz_R99__R132_ hA_)) (hl) (by first | assumption | omega) (RS.set_ (RS.mono hr131_ hs133_) (by first | rfl | (simp [RQ.cells, CM.cells, RT.cells, PM.cells]; done)) (by first | rfl | omega | (simp; done) | (simp; omega))) (RS.set_ hr138_ (by first | rfl | (simp [RQ.cells, CM.cells, RT.cells, PM.cells]; done)) (by first | rfl | omega | (simp; done) | (simp; omega))) (hq) (hk)) H137_ ?_)
    rintro v139_ p143_ w140_ ⟨rfl, rfl⟩ S142_ H141_
    have S144_ := Same.trans S121_ S142_
    refine sv (v := (vB (permits l ⟨kind, key, end_⟩ kind))) (x_assign rfl) ?_
    refine wpList_nil (X_then (hK97_ _ _ ?_))
    clear hK97_
    refine C_ret ?_
    refine R_any (v := (vB (permits l ⟨kind, key, end_⟩ kind))) (run_results1 rfl rfl) ?_
    have H145_ : Holds w140_ (ro R :: F) := Holds.ro_less H141_ hz_R_R132_
    exact ⟨_, _, rfl, ⟨rfl, rfl⟩, S144_, H145_⟩
end Go.Proofs.Ytlnihndjepjagaa
set_option linter.unusedVariables false
set_option linter.unusedSimpArgs false
namespace Go.Proofs.Ytlnihndjepjagaa
open Go Go.RowKit Gw
open Go.Value renaming int → vI, bool → vB, slice → vS, pointer → vP, agg → vA, tuple → vT

/-! ### What the guards let in -/
theorem empty_iff {u : ByteArray} : (u.toList == (ByteArray.mk #[]).toList) = true ↔ u.size = 0 := by
  rw [beq_iff_eq, toList_data, toList_data]
  constructor
  · intro h
    have : u.data.toList.length = 0 := by rw [h]; rfl
    simpa using this
  · intro h
    exact List.eq_nil_of_length_eq_zero (by simpa using h)
theorem zero_iff {u : ByteArray} : (u.toList == (ByteArray.mk #[0]).toList) = true ↔ u.data.toList = [0] := by
  rw [beq_iff_eq, toList_data, toList_data]
theorem bl_lt : ∀ {a b : List UInt8}, Op.bytesLess a b = true ↔ Lib.compareBytes a b < 0
  | [], [] => by simp [Op.bytesLess, Lib.compareBytes]
  | [], _ :: _ => by simp [Op.bytesLess, Lib.compareBytes]
  | _ :: _, [] => by simp [Op.bytesLess, Lib.compareBytes]
  | a :: xs, b :: ys => by
    have ih := @bl_lt xs ys
    simp only [Op.bytesLess, Lib.compareBytes, Bool.or_eq_true, Bool.and_eq_true, decide_eq_true_eq, beq_iff_eq, UInt8.lt_iff_toNat_lt]
    have e : a = b ↔ a.toNat = b.toNat := UInt8.toNat_inj.symm
    by_cases h1 : a.toNat < b.toNat
    · simp [h1]
    · rw [if_neg h1]
      by_cases h2 : b.toNat < a.toNat
      · rw [if_pos h2]
        have : a ≠ b := fun h => by have := e.1 h; omega
        simp [h1, this]
      · rw [if_neg h2]
        have : a = b := e.2 (by omega)
        simp [this, ih]
def vrB (key end_ : ByteArray) : Bool := !(key.toList == (ByteArray.mk #[]).toList) && ((end_.toList == (ByteArray.mk #[]).toList || end_.toList == (ByteArray.mk #[0]).toList) || Op.bytesLess key.toList end_.toList)
theorem vrB_iff {key end_ : ByteArray} : vrB key end_ = true ↔ key.size ≠ 0 ∧ (end_.size = 0 ∨ end_.data.toList = [0] ∨ Lib.compareBytes key.data.toList end_.data.toList < 0) := by
  unfold vrB
  have e0 : (!(key.toList == (ByteArray.mk #[]).toList)) = true ↔ key.size ≠ 0 := by rw [Bool.not_eq_true', ← Bool.not_eq_true, empty_iff]
  rw [Bool.and_eq_true, Bool.or_eq_true, Bool.or_eq_true, e0, empty_iff, zero_iff, bl_lt, or_assoc, toList_data key, toList_data end_]
theorem all_snoc {α : Type} {P : α → Prop} {l : List α} {k : Nat} {x : α} (h : ∀ p ∈ l.take k, P p) (hx : l[k]? = some x) (hp : P x) : ∀ p ∈ l.take (k + 1), P p := by
  intro p hm
  rw [take_snoc hx] at hm
  rcases List.mem_append.1 hm with h1 | h1
  · exact h p h1
  · rw [List.mem_singleton.1 h1]; exact hp
/-! ### The laws: what is permitted hangs on which intervals there are -/
theorem permitP_mono {M M' : List (List UInt8 × List UInt8)} {q : PM} (h : ∀ p ∈ M, p ∈ M') (hp : permitP M q) : permitP M' q := by
  unfold permitP at *
  split at hp
  · rename_i h0
    rw [if_pos h0]
    obtain ⟨p, hm, hh⟩ := hp
    exact ⟨p, h p hm, hh⟩
  · rename_i h0
    rw [if_neg h0]
    intro x h1 h2
    obtain ⟨p, hm, hh⟩ := hp x h1 h2
    exact ⟨p, h p hm, hh⟩
theorem permits_mono {l l' : List PM} {q : PM} {kind : Int} (h : ∀ p ∈ pivls l kind, p ∈ pivls l' kind) (hp : permits l q kind = true) : permits l' q kind = true := permits_iff.2 (permitP_mono h (permits_iff.1 hp))
theorem permits_ext {l l' : List PM} {q : PM} {kind : Int} (h : ∀ p, p ∈ pivls l kind ↔ p ∈ pivls l' kind) : permits l q kind = permits l' q kind := by
  apply Bool.eq_iff_iff.2
  exact ⟨permits_mono fun p hp => (h p).1 hp, permits_mono fun p hp => (h p).2 hp⟩
theorem permits_self {l : List PM} {p q : PM} {kind : Int} (hq : PmOk q) (hp : p ∈ l) (hk : p.kind = kind ∨ p.kind = 2) (h1 : p.key = q.key) (h2 : p.end_ = q.end_) : permits l q kind = true := by
  have e1 : p.lo = q.lo := by unfold PM.lo; rw [h1]
  have e2 : p.hi = q.hi := by unfold PM.hi PM.lo; rw [h1, h2]
  have hm : (q.lo, q.hi) ∈ pivls l kind := pivls_mem.2 ⟨p, hp, hk, by rw [e1, e2]⟩
  have hpr := PM.proper hq
  refine permits_iff.2 ?_
  unfold permitP
  split
  · exact ⟨_, hm, hpr, hpr⟩
  · exact fun x h1 h2 => ⟨_, hm, h1, h2⟩
set_option maxHeartbeats 1600000 in
theorem pmFits (R : HP) (v : Value) (l : List PM) (hv : RS R 3 v (List.length l) (l.flatMap PM.cells)) :
    Tri Try.prog 21 #[v] R [] (fun v__ post__ => ∃ (b : Bool), v__ = (vB b) ∧ post__ = [] ∧ (b = true → l.length ≤ 2147483647)) := by
 refine Tri.into (n := 18) (al := [v]) Try.func21 rfl Try.ntmps21 rfl rfl fun w F H => ?_
 refine C_seq (fun K1_ hK1_ => C_reg ?_)
 refine sv (v := (vB false)) (x_assign rfl) ?_
 refine wpList_nil (X_then (hK1_ _ _ ?_))
 clear hK1_
 refine C_seq (fun K2_ hK2_ => ?_)
 refine C_seq (fun K3_ hK3_ => C_reg ?_)
 refine sv (v := v) (x_move rfl) ?_
 refine sv (v := (vI .i64 ((List.length l) : Int))) (x_lenRS rfl hv Try.underlying46) ?_
 refine sv (v := (vB (decide (2147483647 < ((List.length l) : Int))))) (x_bin rfl rfl rfl) ?_
 refine wpList_nil (X_then (hK3_ _ _ ?_))
 clear hK3_
 refine C_cond (b := decide (2147483647 < ((List.length l) : Int))) rfl (fun c4_t => ?_) (fun c4_f => ?_)
 ·have c4_tp : 2147483647 < ((List.length l) : Int) := of_decide_eq_true c4_t
  refine C_seq (fun K5_ hK5_ => C_reg ?_)
  refine sv (v := (vB false)) (x_assign rfl) ?_
  refine wpList_nil (X_then (hK5_ _ _ ?_))
  clear hK5_
  refine C_ret (X_thenR ?_)
  refine R_any (v := (vB false)) (run_results1 rfl rfl) ?_
  exact ⟨_, _, rfl, ⟨false, rfl, rfl, (fun h => by first | omega | cases h)⟩, (Same.refl w), H⟩
 ·have c4_fp : ¬ (2147483647 < ((List.length l) : Int)) := of_decide_eq_false c4_f
  refine C_skip (X_then (hK2_ _ _ ?_))
  clear hK2_
  refine C_seq (fun K6_ hK6_ => ?_)
  refine C_seq (fun K7_ hK7_ => C_reg ?_)
  refine sv (v := v) (x_move rfl) ?_
  refine sv (v := (vI .i64 ((List.length l) : Int))) (x_lenRS rfl hv Try.underlying46) ?_
  refine sv (v := (vI .i64 0)) (x_move rfl) ?_
  refine wpList_nil (X_then (hK7_ _ _ ?_))
  clear hK7_
  refine C_block ?_
  refine C_loop (γ := Nat × Bool) (fun x__ a__ w1__ => match x__ with | ⟨k, t2_v⟩ => ∃ h : Env, a__ = mkA 18 (upd (upd (upd (upd h 2 (vB t2_v)) 8 v) 9 (vI .i64 ((List.length l) : Int))) 10 (vI .i64 (k : Int))) [] ∧ Holds w1__ (ro R :: F) ∧ Same w w1__ ∧ (k ≤ l.length)) (fun x__ => match x__ with | ⟨k, t2_v⟩ => l.length - k) (⟨0, false⟩) ⟨_, congrArg (fun e => mkA 18 e []) (ch (ch (ch (ch rfl rfl) rfl) rfl) (congrArg (vI .i64) ((by first | rfl | omega | (simp; done) | (simp; omega)) : 0 = (0 : Int)))), H, (Same.refl w), (by first | assumption | omega | exact rfl)⟩ ?_
  rintro ⟨k, t2_v⟩ _ w8_ ⟨h, rfl, H9_, S10_, hkk⟩
  refine C_seq (fun K11_ hK11_ => C_reg ?_)
  refine sv (v := (vB (decide ((k : Int) < ((List.length l) : Int))))) (x_bin rfl rfl rfl) ?_
  refine wpList_nil (X_then (hK11_ _ _ ?_))
  clear hK11_
  refine C_seq (fun K12_ hK12_ => ?_)
  refine C_cond (b := decide ((k : Int) < ((List.length l) : Int))) rfl (fun c13_t => ?_) (fun c13_f => ?_)
  ·have c13_tp : (k : Int) < ((List.length l) : Int) := of_decide_eq_true c13_t
   refine C_skip (X_then (hK12_ _ _ ?_))
   clear hK12_
   refine C_seq (fun K14_ hK14_ => ?_)
   refine C_block ?_
   refine C_seq (fun K15_ hK15_ => C_reg ?_)
   obtain ⟨x16_, hx17_, hm18_⟩ := elem_at l k (by omega)
   refine sv (v := (vP (some ⟨(sb v), so v + (k * 3 + 0), none⟩))) (x_idxRS (v := v) rfl hv rfl Try.underlying46 z51 (by omega) (by omega) (by omega : _ = k) rfl) ?_
   refine sv (v := (vA #[(vI .i64 x16_.kind), (Value.string x16_.key), (Value.string x16_.end_)])) (x_loadN (vs := [(vI .i64 x16_.kind), (Value.string x16_.key), (Value.string x16_.end_)]) rfl Try.underlying51 rfl z51 rfl (RC.cells (RS.rc hv) (Holds.ro_at H9_ 0 rfl) (k * 3 + 0) (fm_cells PM.len hx17_ (i := 0) rfl))) ?_
   refine S_list (T_alloc z51 H9_ ?_)
   intro b19_ w20_ S22_ H21_
   have S23_ := Same.trans S10_ S22_
   refine S_list0 (T_storeN (vs := [(vI .i64 x16_.kind), (Value.string x16_.key), (Value.string x16_.end_)]) rfl rfl z51 rfl (by simp [Value.oneCell']) H21_ 0 rfl (Nat.le_of_ble_eq_true (by rfl)) ?_)
   intro w24_ S26_ H25_
   have S27_ := Same.trans S23_ S26_
   refine wpList_nil (X_then (hK15_ _ _ ?_))
   clear hK15_
   refine C_seq (fun K28_ hK28_ => C_reg ?_)
   refine sv (v := (vA #[(vI .i64 x16_.kind), (Value.string x16_.key), (Value.string x16_.end_)])) (x_loadN (vs := [(vI .i64 x16_.kind), (Value.string x16_.key), (Value.string x16_.end_)]) rfl Try.underlying51 rfl z51 rfl (Rd.cells (Holds.rd H25_ 0 rfl) 0 rfl)) ?_
   refine S_list (T_callW (al := [(vA #[(vI .i64 x16_.kind), (Value.string x16_.key), (Value.string x16_.end_)])]) rfl rfl cb27 (Calls.into (n := 11) (al := [(vA #[(vI .i64 x16_.kind), (Value.string x16_.key), (Value.string x16_.end_)])]) Try.func27 rfl Try.ntmps27 rfl rfl ?_))
   refine C_seq (fun K29_ hK29_ => C_reg ?_)
   refine S_list (T_box (v := (vA #[(vI .i64 x16_.kind), (Value.string x16_.key), (Value.string x16_.end_)])) rfl H25_ ?_)
   intro b30_ w31_ S33_ H32_
   have S34_ := Same.trans S27_ S33_
   refine sv (v := (vB false)) (x_assign rfl) ?_
   refine wpList_nil (X_then (hK29_ _ _ ?_))
   clear hK29_
   refine C_seq (fun K35_ hK35_ => ?_)
   refine C_seq (fun K36_ hK36_ => C_reg ?_)
   refine sv (v := (vP (some ⟨b30_, 1, none⟩))) (by kernel_rfl) ?_
   refine sv (v := (Value.string x16_.key)) (x_load1 rfl Try.underlying9 rfl ((Holds.rd H32_ 0 rfl) 1 (Value.string x16_.key) rfl)) ?_
   refine sv (v := (vI .i64 (x16_.key.size : Int))) (x_lenT rfl Try.underlying9) ?_
   refine sv (v := (vB (decide (2147483647 < (x16_.key.size : Int))))) (x_bin rfl rfl rfl) ?_
   refine wpList_nil (X_then (hK36_ _ _ ?_))
   clear hK36_
   refine C_cond (b := decide (2147483647 < (x16_.key.size : Int))) rfl (fun c37_t => ?_) (fun c37_f => ?_)
   ·have c37_tp : 2147483647 < (x16_.key.size : Int) := of_decide_eq_true c37_t
    refine C_seq (fun K38_ hK38_ => C_reg ?_)
    refine sv (v := (vB false)) (x_assign rfl) ?_
    refine wpList_nil (X_then (hK38_ _ _ ?_))
    clear hK38_
    refine C_ret (X_thenR ?_)
    refine R_any (v := (vB false)) (run_results1 rfl rfl) ⟨_, rfl, ?_⟩
    refine sv (v := (vB true)) (x_cast (x_not (b := false) rfl) rfl) ?_
    refine wpList_nil (X_then (hK28_ _ _ ?_))
    clear hK28_
    refine C_condT rfl ?_
    refine C_seq (fun K39_ hK39_ => C_reg ?_)
    refine sv (v := (vB false)) (x_assign rfl) ?_
    refine wpList_nil (X_then (hK39_ _ _ ?_))
    clear hK39_
    refine C_ret (X_blkR (X_thenR (X_thenR (X_blkR (X_thenR ?_)))))
    refine R_any (v := (vB false)) (run_results1 rfl rfl) ?_
    have H40_ : Holds w31_ (ro R :: F) := (Holds.pkF H32_ [2] 2 :)
    exact ⟨_, _, rfl, ⟨false, rfl, rfl, (fun h => by first | omega | cases h)⟩, S34_, H40_⟩
   ·have c37_fp : ¬ (2147483647 < (x16_.key.size : Int)) := of_decide_eq_false c37_f
    refine C_skip (X_then (hK35_ _ _ ?_))
    clear hK35_
    refine C_seq (fun K41_ hK41_ => ?_)
    refine C_seq (fun K42_ hK42_ => C_reg ?_)
    refine sv (v := (vP (some ⟨b30_, 2, none⟩))) (by kernel_rfl) ?_
    refine sv (v := (Value.string x16_.end_)) (x_load1 rfl Try.underlying9 rfl ((Holds.rd H32_ 0 rfl) 2 (Value.string x16_.end_) rfl)) ?_
    refine sv (v := (vI .i64 (x16_.end_.size : Int))) (x_lenT rfl Try.underlying9) ?_
    refine sv (v := (vB (decide (2147483647 < (x16_.end_.size : Int))))) (x_bin rfl rfl rfl) ?_
    refine wpList_nil (X_then (hK42_ _ _ ?_))
    clear hK42_
    refine C_cond (b := decide (2147483647 < (x16_.end_.size : Int))) rfl (fun c43_t => ?_) (fun c43_f => ?_)
    ·have c43_tp : 2147483647 < (x16_.end_.size : Int) := of_decide_eq_true c43_t
     refine C_seq (fun K44_ hK44_ => C_reg ?_)
     refine sv (v := (vB false)) (x_assign rfl) ?_
     refine wpList_nil (X_then (hK44_ _ _ ?_))
     clear hK44_
     refine C_ret (X_thenR ?_)
     refine R_any (v := (vB false)) (run_results1 rfl rfl) ⟨_, rfl, ?_⟩
     refine sv (v := (vB true)) (x_cast (x_not (b := false) rfl) rfl) ?_
     refine wpList_nil (X_then (hK28_ _ _ ?_))
     clear hK28_
     refine C_condT rfl ?_
     refine C_seq (fun K45_ hK45_ => C_reg ?_)
     refine sv (v := (vB false)) (x_assign rfl) ?_
     refine wpList_nil (X_then (hK45_ _ _ ?_))
     clear hK45_
     refine C_ret (X_blkR (X_thenR (X_thenR (X_blkR (X_thenR ?_)))))
     refine R_any (v := (vB false)) (run_results1 rfl rfl) ?_
     have H46_ : Holds w31_ (ro R :: F) := (Holds.pkF H32_ [2] 2 :)
     exact ⟨_, _, rfl, ⟨false, rfl, rfl, (fun h => by first | omega | cases h)⟩, S34_, H46_⟩
    ·have c43_fp : ¬ (2147483647 < (x16_.end_.size : Int)) := of_decide_eq_false c43_f
     refine C_skip (X_then (hK41_ _ _ ?_))
     clear hK41_
     refine C_seq (fun K47_ hK47_ => C_reg ?_)
     refine sv (v := (vB true)) (x_assign rfl) ?_
     refine wpList_nil (X_then (hK47_ _ _ ?_))
     clear hK47_
     refine C_ret ?_
     refine R_any (v := (vB true)) (run_results1 rfl rfl) ⟨_, rfl, ?_⟩
     refine sv (v := (vB false)) (x_cast (x_not (b := true) rfl) rfl) ?_
     refine wpList_nil (X_then (hK28_ _ _ ?_))
     clear hK28_
     refine C_condF rfl ?_
     refine C_skip (X_blkN (X_then (hK14_ _ _ ?_)))
     clear hK14_
     refine C_reg ?_
     refine sv (v := (vI .i64 ((k : Int) + 1))) (x_bin rfl rfl (ib_add (IntWalk.i64_in _ (by omega)))) ?_
     refine sv (v := (vI .i64 ((k : Int) + 1))) (x_move rfl) ?_
     refine wpList_nil (X_then ?_)
     have H48_ : Holds w31_ (ro R :: F) := (Holds.pkF H32_ [2] 2 :)
     exact ⟨⟨k + 1, t2_v⟩, ⟨_, congrArg (fun e => mkA 18 e []) (ch (ch (ch (ch rfl rfl) rfl) rfl) (congrArg (vI .i64) ((by first | rfl | omega | (simp; done) | (simp; omega)) : (k : Int) + 1 = ((k + 1 : Nat) : Int)))), H48_, S34_, (by first | assumption | omega | exact rfl)⟩, by first | omega | (dsimp only; omega) | (simp; omega)⟩
  ·have c13_fp : ¬ ((k : Int) < ((List.length l) : Int)) := of_decide_eq_false c13_f
   refine C_exit (X_thenX (X_thenX (X_blkHit ?_)))
   refine (X_then (hK6_ _ _ ?_))
   clear hK6_
   refine C_seq (fun K49_ hK49_ => C_reg ?_)
   refine sv (v := (vB true)) (x_assign rfl) ?_
   refine wpList_nil (X_then (hK49_ _ _ ?_))
   clear hK49_
   refine C_ret ?_
   refine R_any (v := (vB true)) (run_results1 rfl rfl) ?_
   exact ⟨_, _, rfl, ⟨true, rfl, rfl, (fun h => by first | omega | cases h)⟩, S10_, H9_⟩

set_option maxHeartbeats 1600000 in
theorem pmRange (R : HP) (key end_ : ByteArray) :
    Tri Try.prog 24 #[(Value.string key), (Value.string end_)] R [] (fun v__ post__ => v__ = (vB (vrB key end_)) ∧ post__ = []) := by
 refine Tri.into (n := 20) (al := [(Value.string key), (Value.string end_)]) Try.func24 rfl Try.ntmps24 rfl rfl fun w F H => ?_
 refine C_seq (fun K1_ hK1_ => C_reg ?_)
 refine sv (v := (vB false)) (x_assign rfl) ?_
 refine wpList_nil (X_then (hK1_ _ _ ?_))
 clear hK1_
 refine C_seq (fun K2_ hK2_ => C_reg ?_)
 refine sv (v := (Value.string key)) (x_move rfl) ?_
 refine sv (v := (vB (!(key.toList == (ByteArray.mk #[]).toList)))) (x_str rfl rfl rfl (by decide)) ?_
 refine sv (v := (vB (!(key.toList == (ByteArray.mk #[]).toList)))) (x_move rfl) ?_
 rcases Bool.eq_false_or_eq_true (!(key.toList == (ByteArray.mk #[]).toList)) with c3_t | c3_f
 ·skip
  refine S_yes (j := 2) (dj := 7) (b := true) rfl rfl (congrArg vB c3_t) (T_val (v := (Value.string end_)) (x_move rfl) ?_)
  refine S_yes (j := 2) (dj := 7) (b := true) rfl rfl (congrArg vB c3_t) (T_val (v := (vB (end_.toList == (ByteArray.mk #[]).toList))) (x_str rfl rfl rfl (by decide)) ?_)
  refine S_yes (j := 2) (dj := 7) (b := true) rfl rfl (congrArg vB c3_t) (T_val (v := (vB (end_.toList == (ByteArray.mk #[]).toList))) (x_move rfl) ?_)
  rcases Bool.eq_false_or_eq_true (end_.toList == (ByteArray.mk #[]).toList) with c4_t | c4_f
  ·skip
   refine S_no (j := 5) (dj := 10) (b := true) rfl rfl (congrArg vB c4_t) (by decide) ?_
   refine S_no (j := 5) (dj := 10) (b := true) rfl rfl (congrArg vB c4_t) (by decide) ?_
   refine S_yes (j := 2) (dj := 7) (b := true) rfl rfl (congrArg vB c3_t) (T_pickT (v := (vB true)) (congrArg vB c4_t) rfl ?_)
   refine S_yes (j := 2) (dj := 7) (b := true) rfl rfl (congrArg vB c3_t) (T_val (v := (vB true)) (x_move rfl) ?_)
   refine S_no (j := 9) (dj := 14) (b := true) rfl rfl rfl (by decide) ?_
   refine S_no (j := 9) (dj := 14) (b := true) rfl rfl rfl (by decide) ?_
   refine S_no (j := 9) (dj := 14) (b := true) rfl rfl rfl (by decide) ?_
   refine S_yes (j := 2) (dj := 7) (b := true) rfl rfl (congrArg vB c3_t) (T_pickT (v := (vB true)) rfl rfl ?_)
   refine S_list (T_pickT (v := (vB true)) (congrArg vB c3_t) rfl ?_)
   refine sv (v := (vB true)) (x_assign rfl) ?_
   refine wpList_nil (X_then (hK2_ _ _ ?_))
   clear hK2_
   refine C_ret ?_
   refine R_any (v := (vB true)) (run_results1 rfl rfl) ?_
   exact ⟨_, _, rfl, ⟨(congrArg vB ((by unfold vrB; rw [c3_t, c4_t]; simp) : true = (vrB key end_))), rfl⟩, (Same.refl w), H⟩
  ·skip
   refine S_yes (j := 5) (dj := 10) (b := false) rfl rfl (congrArg vB c4_f) (T_val (v := (Value.string end_)) (x_move rfl) ?_)
   refine S_yes (j := 5) (dj := 10) (b := false) rfl rfl (congrArg vB c4_f) (T_val (v := (vB (end_.toList == (ByteArray.mk #[0]).toList))) (x_str rfl rfl rfl (by decide)) ?_)
   refine S_yes (j := 2) (dj := 7) (b := true) rfl rfl (congrArg vB c3_t) (T_pickF (v := (vB (end_.toList == (ByteArray.mk #[0]).toList))) (congrArg vB c4_f) rfl ?_)
   refine S_yes (j := 2) (dj := 7) (b := true) rfl rfl (congrArg vB c3_t) (T_val (v := (vB (end_.toList == (ByteArray.mk #[0]).toList))) (x_move rfl) ?_)
   rcases Bool.eq_false_or_eq_true (end_.toList == (ByteArray.mk #[0]).toList) with c5_t | c5_f
   ·skip
    refine S_no (j := 9) (dj := 14) (b := true) rfl rfl (congrArg vB c5_t) (by decide) ?_
    refine S_no (j := 9) (dj := 14) (b := true) rfl rfl (congrArg vB c5_t) (by decide) ?_
    refine S_no (j := 9) (dj := 14) (b := true) rfl rfl (congrArg vB c5_t) (by decide) ?_
    refine S_yes (j := 2) (dj := 7) (b := true) rfl rfl (congrArg vB c3_t) (T_pickT (v := (vB true)) (congrArg vB c5_t) rfl ?_)
    refine S_list (T_pickT (v := (vB true)) (congrArg vB c3_t) rfl ?_)
    refine sv (v := (vB true)) (x_assign rfl) ?_
    refine wpList_nil (X_then (hK2_ _ _ ?_))
    clear hK2_
    refine C_ret ?_
    refine R_any (v := (vB true)) (run_results1 rfl rfl) ?_
    exact ⟨_, _, rfl, ⟨(congrArg vB ((by unfold vrB; rw [c3_t, c4_f, c5_t]; simp) : true = (vrB key end_))), rfl⟩, (Same.refl w), H⟩
   ·skip
    refine S_yes (j := 9) (dj := 14) (b := false) rfl rfl (congrArg vB c5_f) (T_val (v := (Value.string key)) (x_move rfl) ?_)
    refine S_yes (j := 9) (dj := 14) (b := false) rfl rfl (congrArg vB c5_f) (T_val (v := (Value.string end_)) (x_move rfl) ?_)
    refine S_yes (j := 9) (dj := 14) (b := false) rfl rfl (congrArg vB c5_f) (T_val (v := (vB (Op.bytesLess key.toList end_.toList))) (x_str rfl rfl rfl (by decide)) ?_)
    refine S_yes (j := 2) (dj := 7) (b := true) rfl rfl (congrArg vB c3_t) (T_pickF (v := (vB (Op.bytesLess key.toList end_.toList))) (congrArg vB c5_f) rfl ?_)
    refine S_list (T_pickT (v := (vB (Op.bytesLess key.toList end_.toList))) (congrArg vB c3_t) rfl ?_)
    refine sv (v := (vB (Op.bytesLess key.toList end_.toList))) (x_assign rfl) ?_
    refine wpList_nil (X_then (hK2_ _ _ ?_))
    clear hK2_
    refine C_ret ?_
    refine R_any (v := (vB (Op.bytesLess key.toList end_.toList))) (run_results1 rfl rfl) ?_
    exact ⟨_, _, rfl, ⟨(congrArg vB ((by unfold vrB; rw [c3_t, c4_f, c5_f]; simp) : (Op.bytesLess key.toList end_.toList) = (vrB key end_))), rfl⟩, (Same.refl w), H⟩
 ·skip
  refine S_no (j := 2) (dj := 7) (b := false) rfl rfl (congrArg vB c3_f) (by decide) ?_
  refine S_no (j := 2) (dj := 7) (b := false) rfl rfl (congrArg vB c3_f) (by decide) ?_
  refine S_no (j := 2) (dj := 7) (b := false) rfl rfl (congrArg vB c3_f) (by decide) ?_
  refine S_noU (j := 5) (dj := 10) rfl rfl rfl ?_
  refine S_noU (j := 5) (dj := 10) rfl rfl rfl ?_
  refine S_no (j := 2) (dj := 7) (b := false) rfl rfl (congrArg vB c3_f) (by decide) ?_
  refine S_no (j := 2) (dj := 7) (b := false) rfl rfl (congrArg vB c3_f) (by decide) ?_
  refine S_noU (j := 9) (dj := 14) rfl rfl rfl ?_
  refine S_noU (j := 9) (dj := 14) rfl rfl rfl ?_
  refine S_noU (j := 9) (dj := 14) rfl rfl rfl ?_
  refine S_no (j := 2) (dj := 7) (b := false) rfl rfl (congrArg vB c3_f) (by decide) ?_
  refine S_list (T_pickF (v := (vB false)) (congrArg vB c3_f) rfl ?_)
  refine sv (v := (vB false)) (x_assign rfl) ?_
  refine wpList_nil (X_then (hK2_ _ _ ?_))
  clear hK2_
  refine C_ret ?_
  refine R_any (v := (vB false)) (run_results1 rfl rfl) ?_
  exact ⟨_, _, rfl, ⟨(congrArg vB ((by unfold vrB; rw [c3_f]; simp) : false = (vrB key end_))), rfl⟩, (Same.refl w), H⟩

set_option maxHeartbeats 1600000 in
theorem pmPerms (R : HP) (v : Value) (l : List PM) (hv : RS R 3 v (List.length l) (l.flatMap PM.cells)) (hn : l.length ≤ 2147483647) :
    Tri Try.prog 22 #[v] R [] (fun v__ post__ => ∃ (b : Bool), v__ = (vB b) ∧ post__ = [] ∧ (b = true → l.length ≤ 12 ∧ ∀ p ∈ l, PmOk p)) := by
 refine Tri.into (n := 43) (al := [v]) Try.func22 rfl Try.ntmps22 rfl rfl fun w F H => ?_
 refine C_seq (fun K1_ hK1_ => C_reg ?_)
 refine sv (v := (vB false)) (x_assign rfl) ?_
 refine wpList_nil (X_then (hK1_ _ _ ?_))
 clear hK1_
 refine C_seq (fun K2_ hK2_ => ?_)
 refine C_seq (fun K3_ hK3_ => C_reg ?_)
 refine sv (v := v) (x_move rfl) ?_
 refine sv (v := (vI .i64 ((List.length l) : Int))) (x_lenRS rfl hv Try.underlying46) ?_
 refine sv (v := (vI .i64 0)) (x_move rfl) ?_
 refine wpList_nil (X_then (hK3_ _ _ ?_))
 clear hK3_
 refine C_block ?_
 refine C_loop (γ := Nat × Bool) (fun x__ a__ w1__ => match x__ with | ⟨k, t2_v⟩ => ∃ h : Env, a__ = mkA 43 (upd (upd (upd (upd (upd h 0 v) 2 (vB t2_v)) 5 v) 6 (vI .i64 ((List.length l) : Int))) 7 (vI .i64 (k : Int))) [] ∧ Holds w1__ (ro R :: F) ∧ Same w w1__ ∧ (k ≤ l.length) ∧ (∀ p ∈ l.take k, PmOk p)) (fun x__ => match x__ with | ⟨k, t2_v⟩ => l.length - k) (⟨0, false⟩) ⟨_, congrArg (fun e => mkA 43 e []) (ch (ch (ch (ch (ch rfl rfl) rfl) rfl) rfl) (congrArg (vI .i64) ((by first | rfl | omega | (simp; done) | (simp; omega)) : 0 = (0 : Int)))), H, (Same.refl w), (by first | assumption | omega | exact rfl), (fun p hm => by simp at hm)⟩ ?_
 rintro ⟨k, t2_v⟩ _ w4_ ⟨h, rfl, H5_, S6_, hkk, hok⟩
 refine C_seq (fun K7_ hK7_ => C_reg ?_)
 refine sv (v := (vB (decide ((k : Int) < ((List.length l) : Int))))) (x_bin rfl rfl rfl) ?_
 refine wpList_nil (X_then (hK7_ _ _ ?_))
 clear hK7_
 refine C_seq (fun K8_ hK8_ => ?_)
 refine C_cond (b := decide ((k : Int) < ((List.length l) : Int))) rfl (fun c9_t => ?_) (fun c9_f => ?_)
 ·have c9_tp : (k : Int) < ((List.length l) : Int) := of_decide_eq_true c9_t
  refine C_skip (X_then (hK8_ _ _ ?_))
  clear hK8_
  refine C_seq (fun K10_ hK10_ => ?_)
  refine C_block ?_
  refine C_seq (fun K11_ hK11_ => C_reg ?_)
  obtain ⟨x12_, hx13_, hm14_⟩ := elem_at l k (by omega)
  refine sv (v := (vP (some ⟨(sb v), so v + (k * 3 + 0), none⟩))) (x_idxRS (v := v) rfl hv rfl Try.underlying46 z51 (by omega) (by omega) (by omega : _ = k) rfl) ?_
  refine sv (v := (vA #[(vI .i64 x12_.kind), (Value.string x12_.key), (Value.string x12_.end_)])) (x_loadN (vs := [(vI .i64 x12_.kind), (Value.string x12_.key), (Value.string x12_.end_)]) rfl Try.underlying51 rfl z51 rfl (RC.cells (RS.rc hv) (Holds.ro_at H5_ 0 rfl) (k * 3 + 0) (fm_cells PM.len hx13_ (i := 0) rfl))) ?_
  refine S_list (T_alloc z51 H5_ ?_)
  intro b15_ w16_ S18_ H17_
  have S19_ := Same.trans S6_ S18_
  refine S_list0 (T_storeN (vs := [(vI .i64 x12_.kind), (Value.string x12_.key), (Value.string x12_.end_)]) rfl rfl z51 rfl (by simp [Value.oneCell']) H17_ 0 rfl (Nat.le_of_ble_eq_true (by rfl)) ?_)
  intro w20_ S22_ H21_
  have S23_ := Same.trans S19_ S22_
  refine wpList_nil (X_then (hK11_ _ _ ?_))
  clear hK11_
  refine C_seq (fun K24_ hK24_ => C_reg ?_)
  refine sv (v := (vQ b15_)) (by kernel_rfl) ?_
  refine sv (v := (vI .i64 x12_.kind)) (x_load1 rfl Try.underlying3 rfl ((Holds.rd H21_ 0 rfl) 0 (vI .i64 x12_.kind) rfl)) ?_
  refine sv (v := (vB (decide (x12_.kind < 0)))) (x_bin rfl rfl rfl) ?_
  refine sv (v := (vB (decide (x12_.kind < 0)))) (x_move rfl) ?_
  rcases Bool.eq_false_or_eq_true (decide (x12_.kind < 0)) with c25_t | c25_f
  ·have c25_tp : x12_.kind < 0 := of_decide_eq_true c25_t
   refine S_no (j := 3) (dj := 14) (b := true) rfl rfl (congrArg vB c25_t) (by decide) ?_
   refine S_no (j := 3) (dj := 14) (b := true) rfl rfl (congrArg vB c25_t) (by decide) ?_
   refine S_no (j := 3) (dj := 14) (b := true) rfl rfl (congrArg vB c25_t) (by decide) ?_
   refine S_list (T_pickT (v := (vB true)) (congrArg vB c25_t) rfl ?_)
   refine sv (v := (vB true)) (x_move rfl) ?_
   refine S_no (j := 8) (dj := 19) (b := true) rfl rfl rfl (by decide) ?_
   refine S_no (j := 8) (dj := 19) (b := true) rfl rfl rfl (by decide) ?_
   refine S_no (j := 8) (dj := 19) (b := true) rfl rfl rfl (by decide) ?_
   refine S_no (j := 8) (dj := 19) (b := true) rfl rfl rfl (by decide) ?_
   refine S_list (T_pickT (v := (vB true)) rfl rfl ?_)
   refine sv (v := (vB true)) (x_move rfl) ?_
   refine S_no (j := 14) (dj := 25) (b := true) rfl rfl rfl (by decide) ?_
   refine S_no (j := 14) (dj := 25) (b := true) rfl rfl rfl (by decide) ?_
   refine S_no (j := 14) (dj := 25) (b := true) rfl rfl rfl (by decide) ?_
   refine S_no (j := 14) (dj := 25) (b := true) rfl rfl rfl (by decide) ?_
   refine S_list (T_pickT (v := (vB true)) rfl rfl ?_)
   refine sv (v := (vB true)) (x_move rfl) ?_
   refine S_no (j := 20) (dj := 31) (b := true) rfl rfl rfl (by decide) ?_
   refine S_no (j := 20) (dj := 31) (b := true) rfl rfl rfl (by decide) ?_
   refine S_no (j := 20) (dj := 31) (b := true) rfl rfl rfl (by decide) ?_
   refine S_no (j := 20) (dj := 31) (b := true) rfl rfl rfl (by decide) ?_
   refine S_no (j := 20) (dj := 31) (b := true) rfl rfl rfl (by decide) ?_
   refine S_no (j := 20) (dj := 31) (b := true) rfl rfl rfl (by decide) ?_
   refine S_list (T_pickT (v := (vB true)) rfl rfl ?_)
   refine wpList_nil (X_then (hK24_ _ _ ?_))
   clear hK24_
   refine C_condT rfl ?_
   refine C_seq (fun K26_ hK26_ => C_reg ?_)
   refine sv (v := (vB false)) (x_assign rfl) ?_
   refine wpList_nil (X_then (hK26_ _ _ ?_))
   clear hK26_
   refine C_ret (X_blkR (X_thenR (X_thenR (X_blkR (X_thenR ?_)))))
   refine R_any (v := (vB false)) (run_results1 rfl rfl) ?_
   have H27_ : Holds w20_ (ro R :: F) := (Holds.pkF H21_ [1] 1 :)
   exact ⟨_, _, rfl, ⟨false, rfl, rfl, (fun h => by cases h)⟩, S23_, H27_⟩
  ·have c25_fp : ¬ (x12_.kind < 0) := of_decide_eq_false c25_f
   refine S_yes (j := 3) (dj := 14) (b := false) rfl rfl (congrArg vB c25_f) (T_val (v := (vQ b15_)) (by kernel_rfl) ?_)
   refine S_yes (j := 3) (dj := 14) (b := false) rfl rfl (congrArg vB c25_f) (T_val (v := (vI .i64 x12_.kind)) (x_load1 rfl Try.underlying3 rfl ((Holds.rd H21_ 0 rfl) 0 (vI .i64 x12_.kind) rfl)) ?_)
   refine S_yes (j := 3) (dj := 14) (b := false) rfl rfl (congrArg vB c25_f) (T_val (v := (vB (decide (2 < x12_.kind)))) (x_bin rfl rfl rfl) ?_)
   refine S_list (T_pickF (v := (vB (decide (2 < x12_.kind)))) (congrArg vB c25_f) rfl ?_)
   refine sv (v := (vB (decide (2 < x12_.kind)))) (x_move rfl) ?_
   rcases Bool.eq_false_or_eq_true (decide (2 < x12_.kind)) with c28_t | c28_f
   ·have c28_tp : 2 < x12_.kind := of_decide_eq_true c28_t
    refine S_no (j := 8) (dj := 19) (b := true) rfl rfl (congrArg vB c28_t) (by decide) ?_
    refine S_no (j := 8) (dj := 19) (b := true) rfl rfl (congrArg vB c28_t) (by decide) ?_
    refine S_no (j := 8) (dj := 19) (b := true) rfl rfl (congrArg vB c28_t) (by decide) ?_
    refine S_no (j := 8) (dj := 19) (b := true) rfl rfl (congrArg vB c28_t) (by decide) ?_
    refine S_list (T_pickT (v := (vB true)) (congrArg vB c28_t) rfl ?_)
    refine sv (v := (vB true)) (x_move rfl) ?_
    refine S_no (j := 14) (dj := 25) (b := true) rfl rfl rfl (by decide) ?_
    refine S_no (j := 14) (dj := 25) (b := true) rfl rfl rfl (by decide) ?_
    refine S_no (j := 14) (dj := 25) (b := true) rfl rfl rfl (by decide) ?_
    refine S_no (j := 14) (dj := 25) (b := true) rfl rfl rfl (by decide) ?_
    refine S_list (T_pickT (v := (vB true)) rfl rfl ?_)
    refine sv (v := (vB true)) (x_move rfl) ?_
    refine S_no (j := 20) (dj := 31) (b := true) rfl rfl rfl (by decide) ?_
    refine S_no (j := 20) (dj := 31) (b := true) rfl rfl rfl (by decide) ?_
    refine S_no (j := 20) (dj := 31) (b := true) rfl rfl rfl (by decide) ?_
    refine S_no (j := 20) (dj := 31) (b := true) rfl rfl rfl (by decide) ?_
    refine S_no (j := 20) (dj := 31) (b := true) rfl rfl rfl (by decide) ?_
    refine S_no (j := 20) (dj := 31) (b := true) rfl rfl rfl (by decide) ?_
    refine S_list (T_pickT (v := (vB true)) rfl rfl ?_)
    refine wpList_nil (X_then (hK24_ _ _ ?_))
    clear hK24_
    refine C_condT rfl ?_
    refine C_seq (fun K29_ hK29_ => C_reg ?_)
    refine sv (v := (vB false)) (x_assign rfl) ?_
    refine wpList_nil (X_then (hK29_ _ _ ?_))
    clear hK29_
    refine C_ret (X_blkR (X_thenR (X_thenR (X_blkR (X_thenR ?_)))))
    refine R_any (v := (vB false)) (run_results1 rfl rfl) ?_
    have H30_ : Holds w20_ (ro R :: F) := (Holds.pkF H21_ [1] 1 :)
    exact ⟨_, _, rfl, ⟨false, rfl, rfl, (fun h => by cases h)⟩, S23_, H30_⟩
   ·have c28_fp : ¬ (2 < x12_.kind) := of_decide_eq_false c28_f
    refine S_yes (j := 8) (dj := 19) (b := false) rfl rfl (congrArg vB c28_f) (T_val (v := (vP (some ⟨b15_, 1, none⟩))) (by kernel_rfl) ?_)
    refine S_yes (j := 8) (dj := 19) (b := false) rfl rfl (congrArg vB c28_f) (T_val (v := (Value.string x12_.key)) (x_load1 rfl Try.underlying9 rfl ((Holds.rd H21_ 0 rfl) 1 (Value.string x12_.key) rfl)) ?_)
    refine S_yes (j := 8) (dj := 19) (b := false) rfl rfl (congrArg vB c28_f) (T_callW (al := [(Value.string x12_.key)]) rfl rfl cb23 (Calls.into (n := 6) (al := [(Value.string x12_.key)]) Try.func23 rfl Try.ntmps23 rfl rfl ?_))
    refine C_seq (fun K31_ hK31_ => C_reg ?_)
    refine sv (v := (vB false)) (x_assign rfl) ?_
    refine wpList_nil (X_then (hK31_ _ _ ?_))
    clear hK31_
    refine C_seq (fun K32_ hK32_ => C_reg ?_)
    refine sv (v := (Value.string x12_.key)) (x_move rfl) ?_
    refine sv (v := (vI .i64 (x12_.key.size : Int))) (x_lenT rfl Try.underlying9) ?_
    refine sv (v := (vB (decide ((x12_.key.size : Int) ≤ 64)))) (x_bin rfl rfl rfl) ?_
    refine sv (v := (vB (decide ((x12_.key.size : Int) ≤ 64)))) (x_assign rfl) ?_
    refine wpList_nil (X_then (hK32_ _ _ ?_))
    clear hK32_
    refine C_ret ?_
    refine R_any (v := (vB (decide ((x12_.key.size : Int) ≤ 64)))) (run_results1 rfl rfl) ⟨_, rfl, ?_⟩
    refine S_yes (j := 8) (dj := 19) (b := false) rfl rfl (congrArg vB c28_f) (T_val (v := (vB (decide (¬ ((x12_.key.size : Int) ≤ 64))))) (x_notP rfl) ?_)
    refine S_list (T_pickF (v := (vB (decide (¬ ((x12_.key.size : Int) ≤ 64))))) (congrArg vB c28_f) rfl ?_)
    refine sv (v := (vB (decide (¬ ((x12_.key.size : Int) ≤ 64))))) (x_move rfl) ?_
    rcases Bool.eq_false_or_eq_true (decide (¬ ((x12_.key.size : Int) ≤ 64))) with c33_t | c33_f
    ·have c33_tp : ¬ ((x12_.key.size : Int) ≤ 64) := of_decide_eq_true c33_t
     refine S_no (j := 14) (dj := 25) (b := true) rfl rfl (congrArg vB c33_t) (by decide) ?_
     refine S_no (j := 14) (dj := 25) (b := true) rfl rfl (congrArg vB c33_t) (by decide) ?_
     refine S_no (j := 14) (dj := 25) (b := true) rfl rfl (congrArg vB c33_t) (by decide) ?_
     refine S_no (j := 14) (dj := 25) (b := true) rfl rfl (congrArg vB c33_t) (by decide) ?_
     refine S_list (T_pickT (v := (vB true)) (congrArg vB c33_t) rfl ?_)
     refine sv (v := (vB true)) (x_move rfl) ?_
     refine S_no (j := 20) (dj := 31) (b := true) rfl rfl rfl (by decide) ?_
     refine S_no (j := 20) (dj := 31) (b := true) rfl rfl rfl (by decide) ?_
     refine S_no (j := 20) (dj := 31) (b := true) rfl rfl rfl (by decide) ?_
     refine S_no (j := 20) (dj := 31) (b := true) rfl rfl rfl (by decide) ?_
     refine S_no (j := 20) (dj := 31) (b := true) rfl rfl rfl (by decide) ?_
     refine S_no (j := 20) (dj := 31) (b := true) rfl rfl rfl (by decide) ?_
     refine S_list (T_pickT (v := (vB true)) rfl rfl ?_)
     refine wpList_nil (X_then (hK24_ _ _ ?_))
     clear hK24_
     refine C_condT rfl ?_
     refine C_seq (fun K34_ hK34_ => C_reg ?_)
     refine sv (v := (vB false)) (x_assign rfl) ?_
     refine wpList_nil (X_then (hK34_ _ _ ?_))
     clear hK34_
     refine C_ret (X_blkR (X_thenR (X_thenR (X_blkR (X_thenR ?_)))))
     refine R_any (v := (vB false)) (run_results1 rfl rfl) ?_
     have H35_ : Holds w20_ (ro R :: F) := (Holds.pkF H21_ [1] 1 :)
     exact ⟨_, _, rfl, ⟨false, rfl, rfl, (fun h => by cases h)⟩, S23_, H35_⟩
    ·have c33_fp : ¬ (¬ ((x12_.key.size : Int) ≤ 64)) := of_decide_eq_false c33_f
     refine S_yes (j := 14) (dj := 25) (b := false) rfl rfl (congrArg vB c33_f) (T_val (v := (vP (some ⟨b15_, 2, none⟩))) (by kernel_rfl) ?_)
     refine S_yes (j := 14) (dj := 25) (b := false) rfl rfl (congrArg vB c33_f) (T_val (v := (Value.string x12_.end_)) (x_load1 rfl Try.underlying9 rfl ((Holds.rd H21_ 0 rfl) 2 (Value.string x12_.end_) rfl)) ?_)
     refine S_yes (j := 14) (dj := 25) (b := false) rfl rfl (congrArg vB c33_f) (T_callW (al := [(Value.string x12_.end_)]) rfl rfl cb23 (Calls.into (n := 6) (al := [(Value.string x12_.end_)]) Try.func23 rfl Try.ntmps23 rfl rfl ?_))
     refine C_seq (fun K36_ hK36_ => C_reg ?_)
     refine sv (v := (vB false)) (x_assign rfl) ?_
     refine wpList_nil (X_then (hK36_ _ _ ?_))
     clear hK36_
     refine C_seq (fun K37_ hK37_ => C_reg ?_)
     refine sv (v := (Value.string x12_.end_)) (x_move rfl) ?_
     refine sv (v := (vI .i64 (x12_.end_.size : Int))) (x_lenT rfl Try.underlying9) ?_
     refine sv (v := (vB (decide ((x12_.end_.size : Int) ≤ 64)))) (x_bin rfl rfl rfl) ?_
     refine sv (v := (vB (decide ((x12_.end_.size : Int) ≤ 64)))) (x_assign rfl) ?_
     refine wpList_nil (X_then (hK37_ _ _ ?_))
     clear hK37_
     refine C_ret ?_
     refine R_any (v := (vB (decide ((x12_.end_.size : Int) ≤ 64)))) (run_results1 rfl rfl) ⟨_, rfl, ?_⟩
     refine S_yes (j := 14) (dj := 25) (b := false) rfl rfl (congrArg vB c33_f) (T_val (v := (vB (decide (¬ ((x12_.end_.size : Int) ≤ 64))))) (x_notP rfl) ?_)
     refine S_list (T_pickF (v := (vB (decide (¬ ((x12_.end_.size : Int) ≤ 64))))) (congrArg vB c33_f) rfl ?_)
     refine sv (v := (vB (decide (¬ ((x12_.end_.size : Int) ≤ 64))))) (x_move rfl) ?_
     rcases Bool.eq_false_or_eq_true (decide (¬ ((x12_.end_.size : Int) ≤ 64))) with c38_t | c38_f
     ·have c38_tp : ¬ ((x12_.end_.size : Int) ≤ 64) := of_decide_eq_true c38_t
      refine S_no (j := 20) (dj := 31) (b := true) rfl rfl (congrArg vB c38_t) (by decide) ?_
      refine S_no (j := 20) (dj := 31) (b := true) rfl rfl (congrArg vB c38_t) (by decide) ?_
      refine S_no (j := 20) (dj := 31) (b := true) rfl rfl (congrArg vB c38_t) (by decide) ?_
      refine S_no (j := 20) (dj := 31) (b := true) rfl rfl (congrArg vB c38_t) (by decide) ?_
      refine S_no (j := 20) (dj := 31) (b := true) rfl rfl (congrArg vB c38_t) (by decide) ?_
      refine S_no (j := 20) (dj := 31) (b := true) rfl rfl (congrArg vB c38_t) (by decide) ?_
      refine S_list (T_pickT (v := (vB true)) (congrArg vB c38_t) rfl ?_)
      refine wpList_nil (X_then (hK24_ _ _ ?_))
      clear hK24_
      refine C_condT rfl ?_
      refine C_seq (fun K39_ hK39_ => C_reg ?_)
      refine sv (v := (vB false)) (x_assign rfl) ?_
      refine wpList_nil (X_then (hK39_ _ _ ?_))
      clear hK39_
      refine C_ret (X_blkR (X_thenR (X_thenR (X_blkR (X_thenR ?_)))))
      refine R_any (v := (vB false)) (run_results1 rfl rfl) ?_
      have H40_ : Holds w20_ (ro R :: F) := (Holds.pkF H21_ [1] 1 :)
      exact ⟨_, _, rfl, ⟨false, rfl, rfl, (fun h => by cases h)⟩, S23_, H40_⟩
     ·have c38_fp : ¬ (¬ ((x12_.end_.size : Int) ≤ 64)) := of_decide_eq_false c38_f
      refine S_yes (j := 20) (dj := 31) (b := false) rfl rfl (congrArg vB c38_f) (T_val (v := (vP (some ⟨b15_, 1, none⟩))) (by kernel_rfl) ?_)
      refine S_yes (j := 20) (dj := 31) (b := false) rfl rfl (congrArg vB c38_f) (T_val (v := (Value.string x12_.key)) (x_load1 rfl Try.underlying9 rfl ((Holds.rd H21_ 0 rfl) 1 (Value.string x12_.key) rfl)) ?_)
      refine S_yes (j := 20) (dj := 31) (b := false) rfl rfl (congrArg vB c38_f) (T_val (v := (vP (some ⟨b15_, 2, none⟩))) (by kernel_rfl) ?_)
      refine S_yes (j := 20) (dj := 31) (b := false) rfl rfl (congrArg vB c38_f) (T_val (v := (Value.string x12_.end_)) (x_load1 rfl Try.underlying9 rfl ((Holds.rd H21_ 0 rfl) 2 (Value.string x12_.end_) rfl)) ?_)
      have H42_ := ((Holds.bring H21_ 1 rfl) :)
      refine S_yes (j := 20) (dj := 31) (b := false) rfl rfl (congrArg vB c38_f) (T_call (al := [(Value.string x12_.key), (Value.string x12_.end_)]) (pre := []) rfl rfl cb24 (pmRange R x12_.key x12_.end_) H42_ ?_)
      rintro v41_ p46_ w43_ ⟨rfl, rfl⟩ S45_ H44_
      have S47_ := Same.trans S23_ S45_
      refine S_yes (j := 20) (dj := 31) (b := false) rfl rfl (congrArg vB c38_f) (T_val (v := (vB (!(vrB x12_.key x12_.end_)))) (x_not rfl) ?_)
      refine S_list (T_pickF (v := (vB (!(vrB x12_.key x12_.end_)))) (congrArg vB c38_f) rfl ?_)
      refine wpList_nil (X_then (hK24_ _ _ ?_))
      clear hK24_
      refine C_cond (b := !(vrB x12_.key x12_.end_)) rfl (fun c48_t => ?_) (fun c48_f => ?_)
      ·skip
       refine C_seq (fun K49_ hK49_ => C_reg ?_)
       refine sv (v := (vB false)) (x_assign rfl) ?_
       refine wpList_nil (X_then (hK49_ _ _ ?_))
       clear hK49_
       refine C_ret (X_blkR (X_thenR (X_thenR (X_blkR (X_thenR ?_)))))
       refine R_any (v := (vB false)) (run_results1 rfl rfl) ?_
       have H50_ : Holds w43_ (ro R :: F) := (Holds.pkF H44_ [0] 1 :)
       exact ⟨_, _, rfl, ⟨false, rfl, rfl, (fun h => by cases h)⟩, S47_, H50_⟩
      ·skip
       refine C_skip (X_blkN (X_then (hK10_ _ _ ?_)))
       clear hK10_
       refine C_reg ?_
       refine sv (v := (vI .i64 ((k : Int) + 1))) (x_bin rfl rfl (ib_add (IntWalk.i64_in _ (by omega)))) ?_
       refine sv (v := (vI .i64 ((k : Int) + 1))) (x_move rfl) ?_
       refine wpList_nil (X_then ?_)
       have H51_ : Holds w43_ (ro R :: F) := (Holds.pkF H44_ [0] 1 :)
       exact ⟨⟨k + 1, t2_v⟩, ⟨_, congrArg (fun e => mkA 43 e []) (ch (ch (ch (ch (ch rfl rfl) rfl) rfl) rfl) (congrArg (vI .i64) ((by first | rfl | omega | (simp; done) | (simp; omega)) : (k : Int) + 1 = ((k + 1 : Nat) : Int)))), H51_, S47_, (by first | assumption | omega | exact rfl), (all_snoc hok hx13_ (by have hvr_ := vrB_iff.1 (by simpa using c48_f); exact ⟨⟨by omega, by omega⟩, by omega, by omega, hvr_.1, hvr_.2⟩))⟩, by first | omega | (dsimp only; omega) | (simp; omega)⟩
 ·have c9_fp : ¬ ((k : Int) < ((List.length l) : Int)) := of_decide_eq_false c9_f
  refine C_exit (X_thenX (X_thenX (X_blkHit ?_)))
  refine (X_then (hK2_ _ _ ?_))
  clear hK2_
  refine C_seq (fun K52_ hK52_ => C_reg ?_)
  refine sv (v := v) (x_move rfl) ?_
  refine sv (v := (vI .i64 ((List.length l) : Int))) (x_lenRS rfl hv Try.underlying46) ?_
  refine sv (v := (vB (decide (((List.length l) : Int) ≤ 12)))) (x_bin rfl rfl rfl) ?_
  refine sv (v := (vB (decide (((List.length l) : Int) ≤ 12)))) (x_assign rfl) ?_
  refine wpList_nil (X_then (hK52_ _ _ ?_))
  clear hK52_
  refine C_ret ?_
  refine R_any (v := (vB (decide (((List.length l) : Int) ≤ 12)))) (run_results1 rfl rfl) ?_
  exact ⟨_, _, rfl, ⟨decide (((List.length l) : Int) ≤ 12), rfl, rfl, (fun h => ⟨by have := of_decide_eq_true h; omega, fun p hm => hok p (by rw [List.take_of_length_le (by omega)]; exact hm)⟩)⟩, S6_, H5_⟩
end Go.Proofs.Ytlnihndjepjagaa
set_option linter.unusedVariables false
set_option linter.unusedSimpArgs false
namespace Go.Proofs.Ytlnihndjepjagaa
open Go Go.RowKit Gw
open Go.Value renaming int → vI, bool → vB, slice → vS, pointer → vP, agg → vA, tuple → vT

end Go.Proofs.Ytlnihndjepjagaa
