/- The union with an empty tree. -/
import Derived.Test.YtlnihndjepjagaaCkN0
set_option linter.unusedVariables false
set_option linter.unusedSimpArgs false
namespace Go.Proofs.Ytlnihndjepjagaa
open Go Go.RowKit Gw

set_option maxHeartbeats 400000 in
theorem ckVisit (R : HP) (tb sb cb : Nat) (i1 i2 : ByteArray) :
    Tri Try.prog 153 #[(Value.pointer (some ⟨tb, 0, none⟩)), (Value.agg #[(Value.iface 166 (Value.string i1)), (Value.iface 166 (Value.string i2))]), (Value.func (.func 166) #[] #[(Value.pointer (some ⟨cb, 0, none⟩))])] R [cl tb 188 [(Value.pointer (some ⟨sb, 0, none⟩)), (Value.int .i64 0), (Value.pointer (some ⟨sb, 0, none⟩))]] (fun v__ post__ => v__ = (Value.tuple #[]) ∧ post__ = [cl tb 188 [(Value.pointer (some ⟨sb, 0, none⟩)), (Value.int .i64 0), (Value.pointer (some ⟨sb, 0, none⟩))]]) := by
 refine Tri.into (n := 16) (al := [(Value.pointer (some ⟨tb, 0, none⟩)), (Value.agg #[(Value.iface 166 (Value.string i1)), (Value.iface 166 (Value.string i2))]), (Value.func (.func 166) #[] #[(Value.pointer (some ⟨cb, 0, none⟩))])]) Try.func153 rfl Try.ntmps153 rfl rfl fun w F H => ?_
 refine C_seq (fun K1_ hK1_ => ?_)
 refine C_reg ?_
 refine S_list (T_box (v := (Value.agg #[(Value.iface 166 (Value.string i1)), (Value.iface 166 (Value.string i2))])) rfl H ?_)
 intro b2_ w3_ S5_ H4_
 have S6_ := Same.trans (Same.refl w) S5_
 refine S_list (T_box (v := (Value.func (.func 166) #[] #[(Value.pointer (some ⟨cb, 0, none⟩))])) rfl H4_ ?_)
 intro b7_ w8_ S10_ H9_
 replace H9_ : Holds w8_ (cl b7_ 279 [(Value.func (.func 166) #[] #[(Value.pointer (some ⟨cb, 0, none⟩))])] :: cl b2_ 111 [(Value.iface 166 (Value.string i1)), (Value.iface 166 (Value.string i2))] :: ro R :: cl tb 188 [(Value.pointer (some ⟨sb, 0, none⟩)), (Value.int .i64 0), (Value.pointer (some ⟨sb, 0, none⟩))] :: F) := H9_
 have S11_ := Same.trans S6_ S10_
 refine wpList_nil ?_
 refine (X_then (hK1_ _ _ ?_))
 clear hK1_
 refine A_start (S := fun w => Rd b7_ [(Value.func (.func 166) #[] #[(Value.pointer (some ⟨cb, 0, none⟩))])] w ∧ Rd b2_ [(Value.iface 166 (Value.string i1)), (Value.iface 166 (Value.string i2))] w ∧ Rd tb [(Value.pointer (some ⟨sb, 0, none⟩)), (Value.int .i64 0), (Value.pointer (some ⟨sb, 0, none⟩))] w ∧ Sub R (hp w)) (N := 10) foll rfl rfl ?_
 have H12_ := Holds.drew_ H9_
 have hq13_ := And.intro (Holds.rd H12_ 0 rfl) (And.intro (Holds.rd H12_ 1 rfl) (And.intro (Holds.rd H12_ 3 rfl) ((Holds.ro_at H12_ 2 rfl))))
 refine A_tk 0 (v := (Value.pointer (some ⟨tb, 0, none⟩))) rfl (by kernel_rfl) (fun w hS => x_move rfl) hq13_ ?_
 refine A_tk 1 (v := (Value.pointer (some ⟨tb, 0, none⟩))) rfl (by kernel_rfl) (fun w hS => by kernel_rfl) hq13_ ?_
 refine A_tk 2 (v := (Value.pointer (some ⟨tb, 0, none⟩))) rfl (by kernel_rfl) (fun w hS => by kernel_rfl) hq13_ ?_
 refine A_tk 3 (v := (Value.pointer (some ⟨sb, 0, none⟩))) rfl (by kernel_rfl) (fun w hS => x_load1 rfl Try.underlying182 rfl (hS.2.2.1 0 (Value.pointer (some ⟨sb, 0, none⟩)) rfl)) hq13_ ?_
 refine A_tk 4 (v := (Value.pointer (some ⟨tb, 0, none⟩))) rfl (by kernel_rfl) (fun w hS => x_move rfl) hq13_ ?_
 refine A_tk 5 (v := (Value.pointer (some ⟨tb, 0, none⟩))) rfl (by kernel_rfl) (fun w hS => by kernel_rfl) hq13_ ?_
 refine A_tk 6 (v := (Value.pointer (some ⟨tb, 2, none⟩))) rfl (by kernel_rfl) (fun w hS => by kernel_rfl) hq13_ ?_
 refine A_tk 7 (v := (Value.pointer (some ⟨sb, 0, none⟩))) rfl (by kernel_rfl) (fun w hS => x_load1 rfl Try.underlying182 rfl (hS.2.2.1 2 (Value.pointer (some ⟨sb, 0, none⟩)) rfl)) hq13_ ?_
 refine A_tk 8 (v := (Value.func (.func 168) #[] #[(Value.pointer (some ⟨b7_, 0, none⟩))])) rfl (by kernel_rfl) (fun w hS => by kernel_rfl) hq13_ ?_
 refine A_ready (i := 9) (rs := []) (by kernel_rfl) ?_
 refine AllR.cons ?_ AllR.nil
 refine A_op (ls' := #[true, true, true, true, true, true, true, true, true, true]) rfl (by kernel_rfl) (T_callW (al := [(Value.pointer (some ⟨sb, 0, none⟩)), (Value.pointer (some ⟨b2_, 0, none⟩)), (Value.pointer (some ⟨sb, 0, none⟩)), (Value.func (.func 168) #[] #[(Value.pointer (some ⟨b7_, 0, none⟩))])]) rfl rfl cb167 (Calls.into (n := 97) (al := [(Value.pointer (some ⟨sb, 0, none⟩)), (Value.pointer (some ⟨b2_, 0, none⟩)), (Value.pointer (some ⟨sb, 0, none⟩)), (Value.func (.func 168) #[] #[(Value.pointer (some ⟨b7_, 0, none⟩))])]) Try.func167 rfl Try.ntmps167 rfl rfl ?_))
 refine C_seq (fun K14_ hK14_ => ?_)
 refine C_reg ?_
 refine S_list (T_val (v := (Value.bool false)) (x_assign rfl) ?_)
 refine wpList_nil ?_
 refine (X_then (hK14_ _ _ ?_))
 clear hK14_
 refine C_seq (fun K15_ hK15_ => ?_)
 refine C_seq (fun K16_ hK16_ => ?_)
 refine C_reg ?_
 refine S_list (T_val (v := (Value.pointer (some ⟨sb, 0, none⟩))) (x_move rfl) ?_)
 refine S_list (T_val (v := (Value.pointer (some ⟨sb, 0, none⟩))) (x_move rfl) ?_)
 refine S_list (T_val (v := (Value.bool true)) (x_eqP rfl rfl Try.underlying182 z185) ?_)
 refine wpList_nil ?_
 refine (X_then (hK16_ _ _ ?_))
 clear hK16_
 refine C_condT rfl ?_
 refine C_seq (fun K17_ hK17_ => ?_)
 refine C_reg ?_
 refine S_list (T_val (v := (Value.bool true)) (x_assign rfl) ?_)
 refine wpList_nil ?_
 refine (X_then (hK17_ _ _ ?_))
 clear hK17_
 refine C_ret (X_thenR ?_)
 refine R_any (v := (Value.bool true)) (run_results1 rfl rfl) ⟨_, rfl, ?_⟩
 refine ⟨⟨Holds.rd H12_ 0 rfl, Holds.rd H12_ 1 rfl, Holds.rd H12_ 3 rfl, (Holds.ro_at H12_ 2 rfl)⟩, ?_⟩
 refine A_done (by kernel_rfl) ?_
 refine R_0 rfl ?_
 have H18_ : Holds w8_.drew (ro R :: cl tb 188 [(Value.pointer (some ⟨sb, 0, none⟩)), (Value.int .i64 0), (Value.pointer (some ⟨sb, 0, none⟩))] :: F) := (Holds.pkF H12_ [2, 2] 2 :)
 exact ⟨_, _, rfl, ⟨rfl, rfl⟩, (Same.trans S11_ (Same.drew _)), H18_⟩

set_option maxHeartbeats 400000 in
theorem ckUnion (R : HP) (tb tc sc : Nat) (i1 i2 : ByteArray) :
    Tri Try.prog 152 #[(Value.pointer (some ⟨tb, 0, none⟩)), (Value.iface 186 (Value.pointer (some ⟨tc, 0, none⟩))), (Value.agg #[(Value.iface 166 (Value.string i1)), (Value.iface 166 (Value.string i2))])] R [cl tc 188 [(Value.pointer (some ⟨sc, 0, none⟩)), (Value.int .i64 0), (Value.pointer (some ⟨sc, 0, none⟩))]] (fun v__ post__ => v__ = (Value.tuple #[]) ∧ post__ = [cl tc 188 [(Value.pointer (some ⟨sc, 0, none⟩)), (Value.int .i64 0), (Value.pointer (some ⟨sc, 0, none⟩))]]) := by
 refine Tri.into (n := 12) (al := [(Value.pointer (some ⟨tb, 0, none⟩)), (Value.iface 186 (Value.pointer (some ⟨tc, 0, none⟩))), (Value.agg #[(Value.iface 166 (Value.string i1)), (Value.iface 166 (Value.string i2))])]) Try.func152 rfl Try.ntmps152 rfl rfl fun w F H => ?_
 refine C_seq (fun K1_ hK1_ => ?_)
 refine C_reg ?_
 refine S_list (T_box (v := (Value.pointer (some ⟨tb, 0, none⟩))) rfl H ?_)
 intro b2_ w3_ S5_ H4_
 have S6_ := Same.trans (Same.refl w) S5_
 refine S_list (T_box (v := (Value.agg #[(Value.iface 166 (Value.string i1)), (Value.iface 166 (Value.string i2))])) rfl H4_ ?_)
 intro b7_ w8_ S10_ H9_
 replace H9_ : Holds w8_ (cl b7_ 111 [(Value.iface 166 (Value.string i1)), (Value.iface 166 (Value.string i2))] :: cl b2_ 186 [(Value.pointer (some ⟨tb, 0, none⟩))] :: ro R :: cl tc 188 [(Value.pointer (some ⟨sc, 0, none⟩)), (Value.int .i64 0), (Value.pointer (some ⟨sc, 0, none⟩))] :: F) := H9_
 have S11_ := Same.trans S6_ S10_
 refine wpList_nil ?_
 refine (X_then (hK1_ _ _ ?_))
 clear hK1_
 refine C_seq (fun K12_ hK12_ => ?_)
 refine C_reg ?_
 refine S_list (T_val (v := (Value.func (.func 166) #[] #[(Value.pointer (some ⟨b2_, 0, none⟩))])) (by kernel_rfl) ?_)
 refine S_list (T_val (v := (Value.func (.func 166) #[] #[(Value.pointer (some ⟨b2_, 0, none⟩))])) (x_assign rfl) ?_)
 refine wpList_nil ?_
 refine (X_then (hK12_ _ _ ?_))
 clear hK12_
 refine C_reg ?_
 refine S_list (T_val (v := (Value.iface 186 (Value.pointer (some ⟨tc, 0, none⟩)))) (x_move rfl) ?_)
 refine S_list (T_val (v := (Value.agg #[(Value.iface 166 (Value.string i1)), (Value.iface 166 (Value.string i2))])) (x_loadN (vs := [(Value.iface 166 (Value.string i1)), (Value.iface 166 (Value.string i2))]) rfl Try.underlying111 rfl z111 rfl (Rd.cells (Holds.rd H9_ 0 rfl) 0 rfl)) ?_)
 refine S_list (T_val (v := (Value.func (.func 166) #[] #[(Value.pointer (some ⟨b2_, 0, none⟩))])) (x_move rfl) ?_)
 have H14_ := ((Holds.bring (Holds.bring H9_ 3 rfl) 3 rfl) :)
 refine S_list (T_invoke (al := [(Value.pointer (some ⟨tc, 0, none⟩)), (Value.agg #[(Value.iface 166 (Value.string i1)), (Value.iface 166 (Value.string i2))]), (Value.func (.func 166) #[] #[(Value.pointer (some ⟨b2_, 0, none⟩))])]) (pre := [cl tc 188 [(Value.pointer (some ⟨sc, 0, none⟩)), (Value.int .i64 0), (Value.pointer (some ⟨sc, 0, none⟩))]]) rfl (fun w => by kernel_rfl) rfl cb153 (ckVisit R tc sc b2_ i1 i2) H14_ ?_)
 rintro v13_ p18_ w15_ ⟨rfl, rfl⟩ S17_ H16_
 have S19_ := Same.trans S11_ S17_
 refine wpList_nil ?_
 refine R_0 rfl ?_
 have H20_ : Holds w15_ (ro R :: cl tc 188 [(Value.pointer (some ⟨sc, 0, none⟩)), (Value.int .i64 0), (Value.pointer (some ⟨sc, 0, none⟩))] :: F) := (Holds.pkF H16_ [0, 0] 2 :)
 exact ⟨_, _, rfl, ⟨rfl, rfl⟩, S19_, H20_⟩
end Go.Proofs.Ytlnihndjepjagaa
