/- What the writer of pages does: the one below, a flush. -/
import Derived.Test.YtgeggiebefonhaaWaC0
set_option linter.unusedVariables false
set_option linter.unusedSimpArgs false
namespace Go.Proofs.Ytgeggiebefonhaa
open Go Go.RowKit Gw

set_option maxHeartbeats 400000 in
theorem wPage (R : HP) (pg : Nat) (p V : Value) (os ns : List Int) (hP : RS R 1 p ns.length (bytesV ns)) (q1 : os.length ≤ 100000000) (q2 : ns.length ≤ 100000000) :
    Tri Try.prog 152 #[(Value.pointer (some ⟨pg, 0, none⟩)), p] R [cl pg 97 [V], sl 5 1 V (List.length os) (bytesV os)] (fun v__ post__ => ∃ (V' : Value), v__ = (Value.tuple #[(Value.int .i64 (ns.length : Int)), (Value.nilIface)]) ∧ post__ = [cl pg 97 [V'], sl 5 1 V' (List.length (os ++ ns)) (bytesV (os ++ ns))]) := by
  refine Tri.into (n := 17) (al := [(Value.pointer (some ⟨pg, 0, none⟩)), p]) Try.func152 rfl Try.ntmps152 rfl rfl fun w F H => ?_
  replace H : Holds w (ro R :: cl pg 97 [V] :: sl 5 1 V (List.length os) (bytesV os) :: F) := H
  refine C_seq (fun K1_ hK1_ => ?_)
  refine C_reg ?_
  refine S_list (T_val (v := (Value.int .i64 0)) (x_assign rfl) ?_)
  refine S_list (T_val (v := (Value.nilIface)) (x_assign rfl) ?_)
  refine wpList_nil ?_
  refine (X_then (hK1_ _ _ ?_))
  clear hK1_
  refine C_seq (fun K2_ hK2_ => ?_)
  refine C_reg ?_
  refine S_list (T_val (v := (Value.pointer (some ⟨pg, 0, none⟩))) (x_move rfl) ?_)
  refine S_list (T_val (v := (Value.pointer (some ⟨pg, 0, none⟩))) (x_move rfl) ?_)
  refine S_list (T_val (v := (Value.pointer (some ⟨pg, 0, none⟩))) (by kernel_rfl) ?_)
  refine S_list (T_val (v := (Value.pointer (some ⟨pg, 0, none⟩))) (by kernel_rfl) ?_)
  refine S_list (T_val (v := V) (x_load1 rfl Try.underlying43 rfl ((Holds.rd H 1 rfl) 0 V rfl)) ?_)
  refine S_list (T_val (v := p) (x_move rfl) ?_)
  refine S_list (T_append rfl rfl Try.underlying43 z5 rfl (by decide) H 2 rfl (RS.src hP (Holds.ro_at H 0 rfl) Try.underlying43 (one_bytes _)) (by first | omega | (simp only [List.length_append, List.length_cons, List.length_nil]; omega)) ?_)
  intro v3_ w4_ S6_ H5_
  replace H5_ : Holds w4_ (ro R :: cl pg 97 [V] :: sl 5 1 v3_ ((List.length os) + ns.length) ((bytesV os) ++ (bytesV ns)) :: F) := H5_
  have S7_ := Same.trans (Same.refl w) S6_
  have H8_ : Holds w4_ (ro R :: cl pg 97 [V] :: sl 5 1 v3_ (List.length (os ++ ns)) (bytesV (os ++ ns)) :: F) := cast2 (P := fun (c__ : List Value) (k__ : Nat) => Holds w4_ (ro R :: cl pg 97 [V] :: sl 5 1 v3_ k__ c__ :: F)) (bytesV_app _ _ : (bytesV os) ++ (bytesV ns) = bytesV (os ++ ns)) (by first | (simp; done) | (simp; omega) | (have := RS.blen hP; simp; omega) : (List.length os) + ns.length = (List.length (os ++ ns))) H5_
  refine S_list (T_val (v := (Value.pointer (some ⟨pg, 0, none⟩))) (by kernel_rfl) ?_)
  refine S_list (T_val (v := (Value.pointer (some ⟨pg, 0, none⟩))) (by kernel_rfl) ?_)
  refine S_list0 (T_store1 (v := v3_) rfl rfl z43 (Holds.sl_one H8_ 2 rfl) H8_ 1 rfl (Nat.le_of_ble_eq_true (by rfl)) ?_)
  intro w9_ S11_ H10_
  replace H10_ : Holds w9_ (ro R :: cl pg 97 [v3_] :: sl 5 1 v3_ (List.length (os ++ ns)) (bytesV (os ++ ns)) :: F) := H10_
  have S12_ := Same.trans S7_ S11_
  refine wpList_nil ?_
  refine (X_then (hK2_ _ _ ?_))
  clear hK2_
  refine C_seq (fun K13_ hK13_ => ?_)
  refine C_reg ?_
  refine S_list (T_val (v := p) (x_move rfl) ?_)
  refine S_list (T_val (v := (Value.int .i64 (ns.length : Int))) (x_lenRS rfl hP Try.underlying43) ?_)
  refine S_list (T_val (v := (Value.int .i64 (ns.length : Int))) (x_assign rfl) ?_)
  refine S_list (T_val (v := (Value.nilIface)) (x_assign rfl) ?_)
  refine wpList_nil ?_
  refine (X_then (hK13_ _ _ ?_))
  clear hK13_
  refine C_ret ?_
  refine R_any (v := (Value.tuple #[(Value.int .i64 (ns.length : Int)), (Value.nilIface)])) (run_results2 rfl rfl rfl) ?_
  exact ⟨_, [cl pg 97 [v3_], sl 5 1 v3_ (List.length (os ++ ns)) (bytesV (os ++ ns))], rfl, ⟨v3_, rfl, rfl⟩, S12_, H10_⟩

set_option maxHeartbeats 400000 in
theorem wFlush (R : HP) (pw bb pg po : Nat) (pd : List Int) (junk : List Value) (V : Value) (os : List Int) (q0 : po ≤ 2097152) (hj : pd.length + junk.length = 135168) (q2 : os.length + pd.length ≤ 90000000) :
    Tri Try.prog 115 #[(Value.pointer (some ⟨pw, 0, none⟩))] R [cl pw 255 [(Value.iface 95 (Value.pointer (some ⟨pg, 0, none⟩))), (Value.int .i64 (po : Int)), (Value.int .i64 4096), (Value.int .i64 (pd.length : Int)), (Value.slice (some ⟨bb, 0, none⟩) 135168 135168), (Value.int .i64 131072)], cl bb 5 (bytesV pd ++ junk), cl pg 97 [V], sl 5 1 V (List.length os) (bytesV os)] (fun v__ post__ => ∃ (nn : Int) (po' : Nat) (junk' : List Value) (V' : Value), v__ = (Value.tuple #[(Value.int .i64 nn), (Value.nilIface)]) ∧ post__ = [cl pw 255 [(Value.iface 95 (Value.pointer (some ⟨pg, 0, none⟩))), (Value.int .i64 (po' : Int)), (Value.int .i64 4096), (Value.int .i64 0), (Value.slice (some ⟨bb, 0, none⟩) 135168 135168), (Value.int .i64 131072)], cl bb 5 (bytesV [] ++ junk'), cl pg 97 [V'], sl 5 1 V' (List.length (os ++ pd)) (bytesV (os ++ pd))] ∧ (po' ≤ 2097152) ∧ (junk'.length = 135168)) := by
  refine Tri.into (n := 52) (al := [(Value.pointer (some ⟨pw, 0, none⟩))]) Try.func115 rfl Try.ntmps115 rfl rfl fun w F H => ?_
  replace H : Holds w (ro R :: cl pw 255 [(Value.iface 95 (Value.pointer (some ⟨pg, 0, none⟩))), (Value.int .i64 (po : Int)), (Value.int .i64 4096), (Value.int .i64 (pd.length : Int)), (Value.slice (some ⟨bb, 0, none⟩) 135168 135168), (Value.int .i64 131072)] :: cl bb 5 (bytesV pd ++ junk) :: cl pg 97 [V] :: sl 5 1 V (List.length os) (bytesV os) :: F) := H
  refine C_seq (fun K1_ hK1_ => ?_)
  refine C_reg ?_
  refine S_list (T_val (v := (Value.int .i64 0)) (x_assign rfl) ?_)
  refine S_list (T_val (v := (Value.nilIface)) (x_assign rfl) ?_)
  refine wpList_nil ?_
  refine (X_then (hK1_ _ _ ?_))
  clear hK1_
  refine C_seq (fun K2_ hK2_ => ?_)
  refine C_seq (fun K3_ hK3_ => ?_)
  refine C_reg ?_
  refine S_list (T_val (v := (Value.pointer (some ⟨pw, 0, none⟩))) (x_move rfl) ?_)
  refine S_list (T_val (v := (Value.pointer (some ⟨pw, 0, none⟩))) (by kernel_rfl) ?_)
  refine S_list (T_val (v := (Value.pointer (some ⟨pw, 3, none⟩))) (by kernel_rfl) ?_)
  refine S_list (T_val (v := (Value.int .i64 (pd.length : Int))) (x_load1 rfl Try.underlying3 rfl ((Holds.rd H 1 rfl) 3 (Value.int .i64 (pd.length : Int)) rfl)) ?_)
  refine S_list (T_val (v := (Value.bool (decide ((pd.length : Int) = 0)))) (x_bin rfl rfl rfl) ?_)
  refine wpList_nil ?_
  refine (X_then (hK3_ _ _ ?_))
  clear hK3_
  refine C_cond (b := decide ((pd.length : Int) = 0)) rfl (fun c4_t => ?_) (fun c4_f => ?_)
  · have c4_tp : (pd.length : Int) = 0 := of_decide_eq_true c4_t
    refine C_seq (fun K5_ hK5_ => ?_)
    refine C_reg ?_
    refine S_list (T_val (v := (Value.int .i64 0)) (x_assign rfl) ?_)
    refine S_list (T_val (v := (Value.nilIface)) (x_assign rfl) ?_)
    refine wpList_nil ?_
    refine (X_then (hK5_ _ _ ?_))
    clear hK5_
    refine C_ret (X_thenR ?_)
    refine R_any (v := (Value.tuple #[(Value.int .i64 0), (Value.nilIface)])) (run_results2 rfl rfl rfl) ?_
    have H6_ : Holds w (ro R :: cl pw 255 [(Value.iface 95 (Value.pointer (some ⟨pg, 0, none⟩))), (Value.int .i64 (po : Int)), (Value.int .i64 4096), (Value.int .i64 0), (Value.slice (some ⟨bb, 0, none⟩) 135168 135168), (Value.int .i64 131072)] :: cl bb 5 (bytesV pd ++ junk) :: cl pg 97 [V] :: sl 5 1 V (List.length os) (bytesV os) :: F) := cast1 (P := fun (c__ : List Value) => Holds w (ro R :: cl pw 255 c__ :: cl bb 5 (bytesV pd ++ junk) :: cl pg 97 [V] :: sl 5 1 V (List.length os) (bytesV os) :: F)) (by rw [show (pd.length : Int) = 0 by omega] : [(Value.iface 95 (Value.pointer (some ⟨pg, 0, none⟩))), (Value.int .i64 (po : Int)), (Value.int .i64 4096), (Value.int .i64 (pd.length : Int)), (Value.slice (some ⟨bb, 0, none⟩) 135168 135168), (Value.int .i64 131072)] = [(Value.iface 95 (Value.pointer (some ⟨pg, 0, none⟩))), (Value.int .i64 (po : Int)), (Value.int .i64 4096), (Value.int .i64 0), (Value.slice (some ⟨bb, 0, none⟩) 135168 135168), (Value.int .i64 131072)]) H
    have H7_ : Holds w (ro R :: cl pw 255 [(Value.iface 95 (Value.pointer (some ⟨pg, 0, none⟩))), (Value.int .i64 (po : Int)), (Value.int .i64 4096), (Value.int .i64 0), (Value.slice (some ⟨bb, 0, none⟩) 135168 135168), (Value.int .i64 131072)] :: cl bb 5 (bytesV [] ++ (bytesV pd ++ junk)) :: cl pg 97 [V] :: sl 5 1 V (List.length os) (bytesV os) :: F) := cast1 (P := fun (c__ : List Value) => Holds w (ro R :: cl pw 255 [(Value.iface 95 (Value.pointer (some ⟨pg, 0, none⟩))), (Value.int .i64 (po : Int)), (Value.int .i64 4096), (Value.int .i64 0), (Value.slice (some ⟨bb, 0, none⟩) 135168 135168), (Value.int .i64 131072)] :: cl bb 5 c__ :: cl pg 97 [V] :: sl 5 1 V (List.length os) (bytesV os) :: F)) (rfl : bytesV pd ++ junk = bytesV [] ++ (bytesV pd ++ junk)) H6_
    have H8_ : Holds w (ro R :: cl pw 255 [(Value.iface 95 (Value.pointer (some ⟨pg, 0, none⟩))), (Value.int .i64 (po : Int)), (Value.int .i64 4096), (Value.int .i64 0), (Value.slice (some ⟨bb, 0, none⟩) 135168 135168), (Value.int .i64 131072)] :: cl bb 5 (bytesV [] ++ (bytesV pd ++ junk)) :: cl pg 97 [V] :: sl 5 1 V (List.length (os ++ pd)) (bytesV (os ++ pd)) :: F) := cast2 (P := fun (c__ : List Value) (k__ : Nat) => Holds w (ro R :: cl pw 255 [(Value.iface 95 (Value.pointer (some ⟨pg, 0, none⟩))), (Value.int .i64 (po : Int)), (Value.int .i64 4096), (Value.int .i64 0), (Value.slice (some ⟨bb, 0, none⟩) 135168 135168), (Value.int .i64 131072)] :: cl bb 5 (bytesV [] ++ (bytesV pd ++ junk)) :: cl pg 97 [V] :: sl 5 1 V k__ c__ :: F)) (by rw [List.eq_nil_of_length_eq_zero (by omega : pd.length = 0)]; simp : bytesV os = bytesV (os ++ pd)) (by rw [List.length_append]; omega : (List.length os) = (List.length (os ++ pd))) H7_
    exact ⟨_, [cl pw 255 [(Value.iface 95 (Value.pointer (some ⟨pg, 0, none⟩))), (Value.int .i64 (po : Int)), (Value.int .i64 4096), (Value.int .i64 0), (Value.slice (some ⟨bb, 0, none⟩) 135168 135168), (Value.int .i64 131072)], cl bb 5 (bytesV [] ++ (bytesV pd ++ junk)), cl pg 97 [V], sl 5 1 V (List.length (os ++ pd)) (bytesV (os ++ pd))], rfl, ⟨0, po, (bytesV pd ++ junk), V, rfl, rfl, (by first | assumption | omega | exact rfl), (by rw [List.length_append, bytesV_len]; omega)⟩, (Same.refl w), H8_⟩
  · have c4_fp : ¬ ((pd.length : Int) = 0) := of_decide_eq_false c4_f
    refine C_skip (X_then (hK2_ _ _ ?_))
    clear hK2_
    refine C_seq (fun K9_ hK9_ => ?_)
    refine A_start (S := fun w => Rd pw [(Value.iface 95 (Value.pointer (some ⟨pg, 0, none⟩))), (Value.int .i64 (po : Int)), (Value.int .i64 4096), (Value.int .i64 (pd.length : Int)), (Value.slice (some ⟨bb, 0, none⟩) 135168 135168), (Value.int .i64 131072)] w ∧ Sub R (hp w)) (N := 21) foll rfl rfl ?_
    have H10_ : Holds w.drew (ro R :: cl pw 255 [(Value.iface 95 (Value.pointer (some ⟨pg, 0, none⟩))), (Value.int .i64 (po : Int)), (Value.int .i64 4096), (Value.int .i64 (pd.length : Int)), (Value.slice (some ⟨bb, 0, none⟩) 135168 135168), (Value.int .i64 131072)] :: cl bb 5 (bytesV pd ++ junk) :: cl pg 97 [V] :: sl 5 1 V (List.length os) (bytesV os) :: F) := H
    have hq11_ := And.intro (Holds.rd H10_ 1 rfl) ((Holds.ro_at H10_ 0 rfl))
    refine A_tk 0 (v := (Value.pointer (some ⟨pw, 0, none⟩))) rfl (by kernel_rfl) (fun w hS => x_move rfl) hq11_ ?_
    refine A_tk 1 (v := (Value.pointer (some ⟨pw, 0, none⟩))) rfl (by kernel_rfl) (fun w hS => by kernel_rfl) hq11_ ?_
    refine A_tk 2 (v := (Value.pointer (some ⟨pw, 0, none⟩))) rfl (by kernel_rfl) (fun w hS => by kernel_rfl) hq11_ ?_
    refine A_tk 3 (v := (Value.iface 95 (Value.pointer (some ⟨pg, 0, none⟩)))) rfl (by kernel_rfl) (fun w hS => x_load1 rfl Try.underlying168 rfl (hS.1 0 (Value.iface 95 (Value.pointer (some ⟨pg, 0, none⟩))) rfl)) hq11_ ?_
    refine A_tk 4 (v := (Value.pointer (some ⟨pw, 0, none⟩))) rfl (by kernel_rfl) (fun w hS => x_move rfl) hq11_ ?_
    refine A_tk 5 (v := (Value.pointer (some ⟨pw, 0, none⟩))) rfl (by kernel_rfl) (fun w hS => by kernel_rfl) hq11_ ?_
    refine A_tk 6 (v := (Value.pointer (some ⟨pw, 4, none⟩))) rfl (by kernel_rfl) (fun w hS => by kernel_rfl) hq11_ ?_
    refine A_tk 7 (v := (Value.slice (some ⟨bb, 0, none⟩) 135168 135168)) rfl (by kernel_rfl) (fun w hS => x_load1 rfl Try.underlying43 rfl (hS.1 4 (Value.slice (some ⟨bb, 0, none⟩) 135168 135168) rfl)) hq11_ ?_
    refine A_tk 8 (v := (Value.pointer (some ⟨pw, 0, none⟩))) rfl (by kernel_rfl) (fun w hS => x_move rfl) hq11_ ?_
    refine A_tk 9 (v := (Value.pointer (some ⟨pw, 0, none⟩))) rfl (by kernel_rfl) (fun w hS => by kernel_rfl) hq11_ ?_
    refine A_tk 10 (v := (Value.pointer (some ⟨pw, 3, none⟩))) rfl (by kernel_rfl) (fun w hS => by kernel_rfl) hq11_ ?_
    refine A_tk 11 (v := (Value.int .i64 (pd.length : Int))) rfl (by kernel_rfl) (fun w hS => x_load1 rfl Try.underlying3 rfl (hS.1 3 (Value.int .i64 (pd.length : Int)) rfl)) hq11_ ?_
    refine A_tk 12 (v := (Value.slice (some ⟨bb, 0, none⟩) pd.length 135168)) rfl (by kernel_rfl) (fun w hS => x_slice (l := 0) (h := pd.length) rfl Try.underlying43 z5 ⟨_, _, rfl, by omega, by omega, by omega⟩ rfl (by simp [Addr.add])) hq11_ ?_
    refine A_tk 13 (v := (Value.iface 95 (Value.pointer (some ⟨pg, 0, none⟩)))) rfl (by kernel_rfl) (fun w hS => by kernel_rfl) hq11_ ?_
    refine A_tk 14 (v := (Value.iface 95 (Value.pointer (some ⟨pg, 0, none⟩)))) rfl (by kernel_rfl) (fun w hS => x_move rfl) hq11_ ?_
    refine A_ready (i := 15) (rs := []) (by kernel_rfl) ?_
    refine AllR.cons ?_ AllR.nil
    have H14_ : Holds w.drew (ro R :: cl bb 5 (bytesV pd ++ junk) :: cl pg 97 [V] :: sl 5 1 V (List.length os) (bytesV os) :: cl pw 255 [(Value.iface 95 (Value.pointer (some ⟨pg, 0, none⟩))), (Value.int .i64 (po : Int)), (Value.int .i64 4096), (Value.int .i64 (pd.length : Int)), (Value.slice (some ⟨bb, 0, none⟩) 135168 135168), (Value.int .i64 131072)] :: F) := (Holds.bring (Holds.bring (Holds.bring (Holds.bring H10_ 4 rfl) 4 rfl) 4 rfl) 3 rfl)
    refine A_op (ls' := #[true, true, true, true, true, true, true, true, true, true, true, true, true, true, true, true, false, false, false, false, false]) rfl (by kernel_rfl) (T_invoke (al := [(Value.pointer (some ⟨pg, 0, none⟩)), ((Value.slice (some ⟨bb, 0, none⟩) pd.length 135168))]) (pre := [cl bb 5 (bytesV pd ++ junk), cl pg 97 [V], sl 5 1 V (List.length os) (bytesV os)]) (F := cl pw 255 [(Value.iface 95 (Value.pointer (some ⟨pg, 0, none⟩))), (Value.int .i64 (po : Int)), (Value.int .i64 4096), (Value.int .i64 (pd.length : Int)), (Value.slice (some ⟨bb, 0, none⟩) 135168 135168), (Value.int .i64 131072)] :: F) rfl (fun w => by kernel_rfl) (lcons rfl (lcons (rfl : (Value.slice (some ⟨bb, 0, none⟩) pd.length 135168) = ((Value.slice (some ⟨bb, 0, none⟩) pd.length 135168))) rfl)) cb152 (Tri.lend (fun h0__ a0__ d0__ => wPage (un R h0__) pg (Value.slice (some ⟨bb, 0, none⟩) pd.length 135168) V os pd (cl_RSpre a0__ (Sub.un_right d0__) (bytesV_len _) (by first | omega | (simp; omega))) (by first | assumption | omega) (by first | assumption | omega))) H14_ ?_)
    rintro v12_ p18_ w15_ ⟨_, rfl, ⟨V13_, rfl, rfl⟩⟩ S17_ H16_
    replace H16_ : Holds w15_ (ro R :: cl bb 5 (bytesV pd ++ junk) :: cl pg 97 [V13_] :: sl 5 1 V13_ (List.length (os ++ pd)) (bytesV (os ++ pd)) :: cl pw 255 [(Value.iface 95 (Value.pointer (some ⟨pg, 0, none⟩))), (Value.int .i64 (po : Int)), (Value.int .i64 4096), (Value.int .i64 (pd.length : Int)), (Value.slice (some ⟨bb, 0, none⟩) 135168 135168), (Value.int .i64 131072)] :: F) := H16_
    have S19_ := Same.trans (Same.trans (Same.refl w) (Same.drew _)) S17_
    refine ⟨⟨Holds.rd H16_ 4 rfl, (Holds.ro_at H16_ 0 rfl)⟩, ?_⟩
    have hq20_ := And.intro (Holds.rd H16_ 4 rfl) ((Holds.ro_at H16_ 0 rfl))
    refine A_tk 16 (v := (Value.tuple #[(Value.int .i64 (pd.length : Int)), (Value.nilIface)])) rfl (by kernel_rfl) (fun w hS => x_move rfl) hq20_ ?_
    refine A_tk 17 (v := (Value.int .i64 (pd.length : Int))) rfl (by kernel_rfl) (fun w hS => by kernel_rfl) hq20_ ?_
    refine A_tk 18 (v := (Value.nilIface)) rfl (by kernel_rfl) (fun w hS => by kernel_rfl) hq20_ ?_
    refine A_tk 19 (v := (Value.int .i64 (pd.length : Int))) rfl (by kernel_rfl) (fun w hS => x_assign rfl) hq20_ ?_
    refine A_tk 20 (v := (Value.nilIface)) rfl (by kernel_rfl) (fun w hS => x_assign rfl) hq20_ ?_
    refine A_done (by kernel_rfl) ?_
    refine (X_then (hK9_ _ _ ?_))
    clear hK9_
    refine C_seq (fun K21_ hK21_ => ?_)
    refine A_start (S := fun w => Rd pg [V13_] w ∧ SlRd V13_ (bytesV (os ++ pd)) w ∧ Sub R (hp w)) (N := 18) foll rfl rfl ?_
    have H22_ : Holds w15_.drew (ro R :: cl bb 5 (bytesV pd ++ junk) :: cl pg 97 [V13_] :: sl 5 1 V13_ (List.length (os ++ pd)) (bytesV (os ++ pd)) :: cl pw 255 [(Value.iface 95 (Value.pointer (some ⟨pg, 0, none⟩))), (Value.int .i64 (po : Int)), (Value.int .i64 4096), (Value.int .i64 (pd.length : Int)), (Value.slice (some ⟨bb, 0, none⟩) 135168 135168), (Value.int .i64 131072)] :: F) := H16_
    have hq23_ := And.intro (Holds.rd H22_ 2 rfl) (And.intro (Holds.slrd H22_ 3 rfl) ((Holds.ro_at H22_ 0 rfl)))
    refine A_tk 0 (v := (Value.pointer (some ⟨pw, 0, none⟩))) rfl (by kernel_rfl) (fun w hS => x_move rfl) hq23_ ?_
    refine A_tk 1 (v := (Value.pointer (some ⟨pw, 0, none⟩))) rfl (by kernel_rfl) (fun w hS => x_move rfl) hq23_ ?_
    refine A_tk 2 (v := (Value.pointer (some ⟨pw, 0, none⟩))) rfl (by kernel_rfl) (fun w hS => by kernel_rfl) hq23_ ?_
    refine A_tk 3 (v := (Value.pointer (some ⟨pw, 1, none⟩))) rfl (by kernel_rfl) (fun w hS => by kernel_rfl) hq23_ ?_
    refine A_tk 5 (v := (Value.pointer (some ⟨pw, 0, none⟩))) rfl (by kernel_rfl) (fun w hS => x_move rfl) hq23_ ?_
    refine A_tk 6 (v := (Value.pointer (some ⟨pw, 0, none⟩))) rfl (by kernel_rfl) (fun w hS => by kernel_rfl) hq23_ ?_
    refine A_tk 7 (v := (Value.pointer (some ⟨pw, 3, none⟩))) rfl (by kernel_rfl) (fun w hS => by kernel_rfl) hq23_ ?_
    refine A_tk 10 (v := (Value.pointer (some ⟨pw, 0, none⟩))) rfl (by kernel_rfl) (fun w hS => x_move rfl) hq23_ ?_
    refine A_tk 11 (v := (Value.pointer (some ⟨pw, 0, none⟩))) rfl (by kernel_rfl) (fun w hS => by kernel_rfl) hq23_ ?_
    refine A_tk 12 (v := (Value.pointer (some ⟨pw, 2, none⟩))) rfl (by kernel_rfl) (fun w hS => by kernel_rfl) hq23_ ?_
    refine A_ready (i := 4) (rs := [8, 13]) (by kernel_rfl) ?_
    refine AllR.cons ?_ ?_
    · skip
      refine A_op (ls' := #[true, true, true, true, true, true, true, true, false, false, true, true, true, false, false, false, false, false]) rfl (by kernel_rfl) (T_val (v := (Value.int .i64 (po : Int))) (x_load1 rfl Try.underlying3 rfl ((Holds.rd H22_ 4 rfl) 1 (Value.int .i64 (po : Int)) rfl)) ?_)
      refine ⟨⟨Holds.rd H22_ 2 rfl, Holds.slrd H22_ 3 rfl, (Holds.ro_at H22_ 0 rfl)⟩, ?_⟩
      refine A_ready (i := 8) (rs := [13]) (by kernel_rfl) ?_
      refine AllR.cons ?_ ?_
      · skip
        refine A_op (ls' := #[true, true, true, true, true, true, true, true, true, false, true, true, true, false, false, false, false, false]) rfl (by kernel_rfl) (T_val (v := (Value.int .i64 (pd.length : Int))) (x_load1 rfl Try.underlying3 rfl ((Holds.rd H22_ 4 rfl) 3 (Value.int .i64 (pd.length : Int)) rfl)) ?_)
        refine ⟨⟨Holds.rd H22_ 2 rfl, Holds.slrd H22_ 3 rfl, (Holds.ro_at H22_ 0 rfl)⟩, ?_⟩
        refine A_tk 9 (v := (Value.int .i64 ((po : Int) + (pd.length : Int)))) rfl (by kernel_rfl) (fun w hS => x_bin rfl rfl (ib_add (IntWalk.i64_in _ (by omega)))) hq23_ ?_
        refine A_ready (i := 13) (rs := []) (by kernel_rfl) ?_
        refine AllR.cons ?_ AllR.nil
        refine A_op (ls' := #[true, true, true, true, true, true, true, true, true, true, true, true, true, true, false, false, false, false]) rfl (by kernel_rfl) (T_val (v := (Value.int .i64 4096)) (x_load1 rfl Try.underlying3 rfl ((Holds.rd H22_ 4 rfl) 2 (Value.int .i64 4096) rfl)) ?_)
        refine ⟨⟨Holds.rd H22_ 2 rfl, Holds.slrd H22_ 3 rfl, (Holds.ro_at H22_ 0 rfl)⟩, ?_⟩
        refine A_tk 14 (v := (Value.int .i64 (((po + pd.length) % 4096 : Nat) : Int))) rfl (by kernel_rfl) (fun w hS => x_bin rfl rfl (ib_remN (x := po + pd.length) (y := 4096) (by omega) (by omega) (by omega) (by omega) rfl)) hq23_ ?_
        refine A_tk 15 (v := (Value.pointer (some ⟨pw, 0, none⟩))) rfl (by kernel_rfl) (fun w hS => by kernel_rfl) hq23_ ?_
        refine A_tk 16 (v := (Value.pointer (some ⟨pw, 1, none⟩))) rfl (by kernel_rfl) (fun w hS => by kernel_rfl) hq23_ ?_
        refine A_ready (i := 17) (rs := []) (by kernel_rfl) ?_
        refine AllR.cons ?_ AllR.nil
        refine A_op0 (ls' := #[true, true, true, true, true, true, true, true, true, true, true, true, true, true, true, true, true, true]) rfl (by kernel_rfl) (T_store1 (v := (Value.int .i64 (((po + pd.length) % 4096 : Nat) : Int))) rfl rfl z3 rfl H22_ 4 rfl (Nat.le_of_ble_eq_true (by rfl)) ?_)
        intro w24_ S26_ H25_
        replace H25_ : Holds w24_ (ro R :: cl bb 5 (bytesV pd ++ junk) :: cl pg 97 [V13_] :: sl 5 1 V13_ (List.length (os ++ pd)) (bytesV (os ++ pd)) :: cl pw 255 [(Value.iface 95 (Value.pointer (some ⟨pg, 0, none⟩))), (Value.int .i64 (((po + pd.length) % 4096 : Nat) : Int)), (Value.int .i64 4096), (Value.int .i64 (pd.length : Int)), (Value.slice (some ⟨bb, 0, none⟩) 135168 135168), (Value.int .i64 131072)] :: F) := H25_
        have S27_ := Same.trans (Same.trans S19_ (Same.drew _)) S26_
        refine ⟨⟨Holds.rd H25_ 2 rfl, Holds.slrd H25_ 3 rfl, (Holds.ro_at H25_ 0 rfl)⟩, ?_⟩
        refine A_done (by kernel_rfl) ?_
        refine (X_then (hK21_ _ _ ?_))
        clear hK21_
        refine C_seq (fun K28_ hK28_ => ?_)
        refine C_reg ?_
        refine S_list (T_val (v := (Value.pointer (some ⟨pw, 0, none⟩))) (x_move rfl) ?_)
        refine S_list (T_val (v := (Value.pointer (some ⟨pw, 0, none⟩))) (by kernel_rfl) ?_)
        refine S_list (T_val (v := (Value.pointer (some ⟨pw, 3, none⟩))) (by kernel_rfl) ?_)
        refine S_list0 (T_store1 (v := (Value.int .i64 0)) rfl rfl z3 rfl H25_ 4 rfl (Nat.le_of_ble_eq_true (by rfl)) ?_)
        intro w29_ S31_ H30_
        replace H30_ : Holds w29_ (ro R :: cl bb 5 (bytesV pd ++ junk) :: cl pg 97 [V13_] :: sl 5 1 V13_ (List.length (os ++ pd)) (bytesV (os ++ pd)) :: cl pw 255 [(Value.iface 95 (Value.pointer (some ⟨pg, 0, none⟩))), (Value.int .i64 (((po + pd.length) % 4096 : Nat) : Int)), (Value.int .i64 4096), (Value.int .i64 0), (Value.slice (some ⟨bb, 0, none⟩) 135168 135168), (Value.int .i64 131072)] :: F) := H30_
        have S32_ := Same.trans S27_ S31_
        refine wpList_nil ?_
        refine (X_then (hK28_ _ _ ?_))
        clear hK28_
        refine C_seq (fun K33_ hK33_ => ?_)
        refine C_reg ?_
        refine S_list (T_val (v := (Value.int .i64 (pd.length : Int))) (x_move rfl) ?_)
        refine S_list (T_val (v := (Value.nilIface)) (x_move rfl) ?_)
        refine S_list (T_val (v := (Value.int .i64 (pd.length : Int))) (x_assign rfl) ?_)
        refine S_list (T_val (v := (Value.nilIface)) (x_assign rfl) ?_)
        refine wpList_nil ?_
        refine (X_then (hK33_ _ _ ?_))
        clear hK33_
        refine C_ret ?_
        refine R_any (v := (Value.tuple #[(Value.int .i64 (pd.length : Int)), (Value.nilIface)])) (run_results2 rfl rfl rfl) ?_
        have H34_ : Holds w29_ (ro R :: cl bb 5 (bytesV [] ++ (bytesV pd ++ junk)) :: cl pg 97 [V13_] :: sl 5 1 V13_ (List.length (os ++ pd)) (bytesV (os ++ pd)) :: cl pw 255 [(Value.iface 95 (Value.pointer (some ⟨pg, 0, none⟩))), (Value.int .i64 (((po + pd.length) % 4096 : Nat) : Int)), (Value.int .i64 4096), (Value.int .i64 0), (Value.slice (some ⟨bb, 0, none⟩) 135168 135168), (Value.int .i64 131072)] :: F) := cast1 (P := fun (c__ : List Value) => Holds w29_ (ro R :: cl bb 5 c__ :: cl pg 97 [V13_] :: sl 5 1 V13_ (List.length (os ++ pd)) (bytesV (os ++ pd)) :: cl pw 255 [(Value.iface 95 (Value.pointer (some ⟨pg, 0, none⟩))), (Value.int .i64 (((po + pd.length) % 4096 : Nat) : Int)), (Value.int .i64 4096), (Value.int .i64 0), (Value.slice (some ⟨bb, 0, none⟩) 135168 135168), (Value.int .i64 131072)] :: F)) (rfl : bytesV pd ++ junk = bytesV [] ++ (bytesV pd ++ junk)) H30_
        have H35_ : Holds w29_ (ro R :: cl bb 5 (bytesV [] ++ (bytesV pd ++ junk)) :: cl pg 97 [V13_] :: sl 5 1 V13_ (List.length (os ++ pd)) (bytesV (os ++ pd)) :: cl pw 255 [(Value.iface 95 (Value.pointer (some ⟨pg, 0, none⟩))), (Value.int .i64 ((((po + pd.length) % 4096 : Nat) : Nat) : Int)), (Value.int .i64 4096), (Value.int .i64 0), (Value.slice (some ⟨bb, 0, none⟩) 135168 135168), (Value.int .i64 131072)] :: F) := cast1 (P := fun (c__ : List Value) => Holds w29_ (ro R :: cl bb 5 (bytesV [] ++ (bytesV pd ++ junk)) :: cl pg 97 [V13_] :: sl 5 1 V13_ (List.length (os ++ pd)) (bytesV (os ++ pd)) :: cl pw 255 c__ :: F)) ((lcons rfl (lcons (congrArg (Value.int .i64) ((by first | rfl | omega | (simp; done) | (simp; omega)) : (((po + pd.length) % 4096 : Nat) : Int) = ((((po + pd.length) % 4096 : Nat) : Nat) : Int))) rfl)) : [(Value.iface 95 (Value.pointer (some ⟨pg, 0, none⟩))), (Value.int .i64 (((po + pd.length) % 4096 : Nat) : Int)), (Value.int .i64 4096), (Value.int .i64 0), (Value.slice (some ⟨bb, 0, none⟩) 135168 135168), (Value.int .i64 131072)] = [(Value.iface 95 (Value.pointer (some ⟨pg, 0, none⟩))), (Value.int .i64 ((((po + pd.length) % 4096 : Nat) : Nat) : Int)), (Value.int .i64 4096), (Value.int .i64 0), (Value.slice (some ⟨bb, 0, none⟩) 135168 135168), (Value.int .i64 131072)]) H34_
        have H36_ : Holds w29_ (ro R :: cl pw 255 [(Value.iface 95 (Value.pointer (some ⟨pg, 0, none⟩))), (Value.int .i64 ((((po + pd.length) % 4096 : Nat) : Nat) : Int)), (Value.int .i64 4096), (Value.int .i64 0), (Value.slice (some ⟨bb, 0, none⟩) 135168 135168), (Value.int .i64 131072)] :: cl bb 5 (bytesV [] ++ (bytesV pd ++ junk)) :: cl pg 97 [V13_] :: sl 5 1 V13_ (List.length (os ++ pd)) (bytesV (os ++ pd)) :: F) := (Holds.bring (Holds.bring (Holds.bring (Holds.bring (Holds.bring H35_ 3 rfl) 3 rfl) 3 rfl) 4 rfl) 4 rfl)
        exact ⟨_, [cl pw 255 [(Value.iface 95 (Value.pointer (some ⟨pg, 0, none⟩))), (Value.int .i64 ((((po + pd.length) % 4096 : Nat) : Nat) : Int)), (Value.int .i64 4096), (Value.int .i64 0), (Value.slice (some ⟨bb, 0, none⟩) 135168 135168), (Value.int .i64 131072)], cl bb 5 (bytesV [] ++ (bytesV pd ++ junk)), cl pg 97 [V13_], sl 5 1 V13_ (List.length (os ++ pd)) (bytesV (os ++ pd))], rfl, ⟨(pd.length : Int), ((po + pd.length) % 4096 : Nat), (bytesV pd ++ junk), V13_, rfl, rfl, (by first | assumption | omega | exact rfl), (by rw [List.length_append, bytesV_len]; omega)⟩, S32_, H36_⟩
      refine AllR.cons ?_ AllR.nil
      refine A_op (ls' := #[true, true, true, true, true, true, true, true, false, false, true, true, true, true, false, false, false, false]) rfl (by kernel_rfl) (T_val (v := (Value.int .i64 4096)) (x_load1 rfl Try.underlying3 rfl ((Holds.rd H22_ 4 rfl) 2 (Value.int .i64 4096) rfl)) ?_)
      refine ⟨⟨Holds.rd H22_ 2 rfl, Holds.slrd H22_ 3 rfl, (Holds.ro_at H22_ 0 rfl)⟩, ?_⟩
      refine A_ready (i := 8) (rs := []) (by kernel_rfl) ?_
      refine AllR.cons ?_ AllR.nil
      refine A_op (ls' := #[true, true, true, true, true, true, true, true, true, false, true, true, true, true, false, false, false, false]) rfl (by kernel_rfl) (T_val (v := (Value.int .i64 (pd.length : Int))) (x_load1 rfl Try.underlying3 rfl ((Holds.rd H22_ 4 rfl) 3 (Value.int .i64 (pd.length : Int)) rfl)) ?_)
      refine ⟨⟨Holds.rd H22_ 2 rfl, Holds.slrd H22_ 3 rfl, (Holds.ro_at H22_ 0 rfl)⟩, ?_⟩
      refine A_tk 9 (v := (Value.int .i64 ((po : Int) + (pd.length : Int)))) rfl (by kernel_rfl) (fun w hS => x_bin rfl rfl (ib_add (IntWalk.i64_in _ (by omega)))) hq23_ ?_
      refine A_tk 14 (v := (Value.int .i64 (((po + pd.length) % 4096 : Nat) : Int))) rfl (by kernel_rfl) (fun w hS => x_bin rfl rfl (ib_remN (x := po + pd.length) (y := 4096) (by omega) (by omega) (by omega) (by omega) rfl)) hq23_ ?_
      refine A_tk 15 (v := (Value.pointer (some ⟨pw, 0, none⟩))) rfl (by kernel_rfl) (fun w hS => by kernel_rfl) hq23_ ?_
      refine A_tk 16 (v := (Value.pointer (some ⟨pw, 1, none⟩))) rfl (by kernel_rfl) (fun w hS => by kernel_rfl) hq23_ ?_
      refine A_ready (i := 17) (rs := []) (by kernel_rfl) ?_
      refine AllR.cons ?_ AllR.nil
      refine A_op0 (ls' := #[true, true, true, true, true, true, true, true, true, true, true, true, true, true, true, true, true, true]) rfl (by kernel_rfl) (T_store1 (v := (Value.int .i64 (((po + pd.length) % 4096 : Nat) : Int))) rfl rfl z3 rfl H22_ 4 rfl (Nat.le_of_ble_eq_true (by rfl)) ?_)
      intro w37_ S39_ H38_
      replace H38_ : Holds w37_ (ro R :: cl bb 5 (bytesV pd ++ junk) :: cl pg 97 [V13_] :: sl 5 1 V13_ (List.length (os ++ pd)) (bytesV (os ++ pd)) :: cl pw 255 [(Value.iface 95 (Value.pointer (some ⟨pg, 0, none⟩))), (Value.int .i64 (((po + pd.length) % 4096 : Nat) : Int)), (Value.int .i64 4096), (Value.int .i64 (pd.length : Int)), (Value.slice (some ⟨bb, 0, none⟩) 135168 135168), (Value.int .i64 131072)] :: F) := H38_
      have S40_ := Same.trans (Same.trans S19_ (Same.drew _)) S39_
      refine ⟨⟨Holds.rd H38_ 2 rfl, Holds.slrd H38_ 3 rfl, (Holds.ro_at H38_ 0 rfl)⟩, ?_⟩
      refine A_done (by kernel_rfl) ?_
      refine (X_then (hK21_ _ _ ?_))
      clear hK21_
      refine C_seq (fun K41_ hK41_ => ?_)
      refine C_reg ?_
      refine S_list (T_val (v := (Value.pointer (some ⟨pw, 0, none⟩))) (x_move rfl) ?_)
      refine S_list (T_val (v := (Value.pointer (some ⟨pw, 0, none⟩))) (by kernel_rfl) ?_)
      refine S_list (T_val (v := (Value.pointer (some ⟨pw, 3, none⟩))) (by kernel_rfl) ?_)
      refine S_list0 (T_store1 (v := (Value.int .i64 0)) rfl rfl z3 rfl H38_ 4 rfl (Nat.le_of_ble_eq_true (by rfl)) ?_)
      intro w42_ S44_ H43_
      replace H43_ : Holds w42_ (ro R :: cl bb 5 (bytesV pd ++ junk) :: cl pg 97 [V13_] :: sl 5 1 V13_ (List.length (os ++ pd)) (bytesV (os ++ pd)) :: cl pw 255 [(Value.iface 95 (Value.pointer (some ⟨pg, 0, none⟩))), (Value.int .i64 (((po + pd.length) % 4096 : Nat) : Int)), (Value.int .i64 4096), (Value.int .i64 0), (Value.slice (some ⟨bb, 0, none⟩) 135168 135168), (Value.int .i64 131072)] :: F) := H43_
      have S45_ := Same.trans S40_ S44_
      refine wpList_nil ?_
      refine (X_then (hK41_ _ _ ?_))
      clear hK41_
      refine C_seq (fun K46_ hK46_ => ?_)
      refine C_reg ?_
      refine S_list (T_val (v := (Value.int .i64 (pd.length : Int))) (x_move rfl) ?_)
      refine S_list (T_val (v := (Value.nilIface)) (x_move rfl) ?_)
      refine S_list (T_val (v := (Value.int .i64 (pd.length : Int))) (x_assign rfl) ?_)
      refine S_list (T_val (v := (Value.nilIface)) (x_assign rfl) ?_)
      refine wpList_nil ?_
      refine (X_then (hK46_ _ _ ?_))
      clear hK46_
      refine C_ret ?_
      refine R_any (v := (Value.tuple #[(Value.int .i64 (pd.length : Int)), (Value.nilIface)])) (run_results2 rfl rfl rfl) ?_
      have H47_ : Holds w42_ (ro R :: cl bb 5 (bytesV [] ++ (bytesV pd ++ junk)) :: cl pg 97 [V13_] :: sl 5 1 V13_ (List.length (os ++ pd)) (bytesV (os ++ pd)) :: cl pw 255 [(Value.iface 95 (Value.pointer (some ⟨pg, 0, none⟩))), (Value.int .i64 (((po + pd.length) % 4096 : Nat) : Int)), (Value.int .i64 4096), (Value.int .i64 0), (Value.slice (some ⟨bb, 0, none⟩) 135168 135168), (Value.int .i64 131072)] :: F) := cast1 (P := fun (c__ : List Value) => Holds w42_ (ro R :: cl bb 5 c__ :: cl pg 97 [V13_] :: sl 5 1 V13_ (List.length (os ++ pd)) (bytesV (os ++ pd)) :: cl pw 255 [(Value.iface 95 (Value.pointer (some ⟨pg, 0, none⟩))), (Value.int .i64 (((po + pd.length) % 4096 : Nat) : Int)), (Value.int .i64 4096), (Value.int .i64 0), (Value.slice (some ⟨bb, 0, none⟩) 135168 135168), (Value.int .i64 131072)] :: F)) (rfl : bytesV pd ++ junk = bytesV [] ++ (bytesV pd ++ junk)) H43_
      have H48_ : Holds w42_ (ro R :: cl bb 5 (bytesV [] ++ (bytesV pd ++ junk)) :: cl pg 97 [V13_] :: sl 5 1 V13_ (List.length (os ++ pd)) (bytesV (os ++ pd)) :: cl pw 255 [(Value.iface 95 (Value.pointer (some ⟨pg, 0, none⟩))), (Value.int .i64 ((((po + pd.length) % 4096 : Nat) : Nat) : Int)), (Value.int .i64 4096), (Value.int .i64 0), (Value.slice (some ⟨bb, 0, none⟩) 135168 135168), (Value.int .i64 131072)] :: F) := cast1 (P := fun (c__ : List Value) => Holds w42_ (ro R :: cl bb 5 (bytesV [] ++ (bytesV pd ++ junk)) :: cl pg 97 [V13_] :: sl 5 1 V13_ (List.length (os ++ pd)) (bytesV (os ++ pd)) :: cl pw 255 c__ :: F)) ((lcons rfl (lcons (congrArg (Value.int .i64) ((by first | rfl | omega | (simp; done) | (simp; omega)) : (((po + pd.length) % 4096 : Nat) : Int) = ((((po + pd.length) % 4096 : Nat) : Nat) : Int))) rfl)) : [(Value.iface 95 (Value.pointer (some ⟨pg, 0, none⟩))), (Value.int .i64 (((po + pd.length) % 4096 : Nat) : Int)), (Value.int .i64 4096), (Value.int .i64 0), (Value.slice (some ⟨bb, 0, none⟩) 135168 135168), (Value.int .i64 131072)] = [(Value.iface 95 (Value.pointer (some ⟨pg, 0, none⟩))), (Value.int .i64 ((((po + pd.length) % 4096 : Nat) : Nat) : Int)), (Value.int .i64 4096), (Value.int .i64 0), (Value.slice (some ⟨bb, 0, none⟩) 135168 135168), (Value.int .i64 131072)]) H47_
      have H49_ : Holds w42_ (ro R :: cl pw 255 [(Value.iface 95 (Value.pointer (some ⟨pg, 0, none⟩))), (Value.int .i64 ((((po + pd.length) % 4096 : Nat) : Nat) : Int)), (Value.int .i64 4096), (Value.int .i64 0), (Value.slice (some ⟨bb, 0, none⟩) 135168 135168), (Value.int .i64 131072)] :: cl bb 5 (bytesV [] ++ (bytesV pd ++ junk)) :: cl pg 97 [V13_] :: sl 5 1 V13_ (List.length (os ++ pd)) (bytesV (os ++ pd)) :: F) := (Holds.bring (Holds.bring (Holds.bring (Holds.bring (Holds.bring H48_ 3 rfl) 3 rfl) 3 rfl) 4 rfl) 4 rfl)
      exact ⟨_, [cl pw 255 [(Value.iface 95 (Value.pointer (some ⟨pg, 0, none⟩))), (Value.int .i64 ((((po + pd.length) % 4096 : Nat) : Nat) : Int)), (Value.int .i64 4096), (Value.int .i64 0), (Value.slice (some ⟨bb, 0, none⟩) 135168 135168), (Value.int .i64 131072)], cl bb 5 (bytesV [] ++ (bytesV pd ++ junk)), cl pg 97 [V13_], sl 5 1 V13_ (List.length (os ++ pd)) (bytesV (os ++ pd))], rfl, ⟨(pd.length : Int), ((po + pd.length) % 4096 : Nat), (bytesV pd ++ junk), V13_, rfl, rfl, (by first | assumption | omega | exact rfl), (by rw [List.length_append, bytesV_len]; omega)⟩, S45_, H49_⟩
    refine AllR.cons ?_ ?_
    · skip
      refine A_op (ls' := #[true, true, true, true, false, true, true, true, true, false, true, true, true, false, false, false, false, false]) rfl (by kernel_rfl) (T_val (v := (Value.int .i64 (pd.length : Int))) (x_load1 rfl Try.underlying3 rfl ((Holds.rd H22_ 4 rfl) 3 (Value.int .i64 (pd.length : Int)) rfl)) ?_)
      refine ⟨⟨Holds.rd H22_ 2 rfl, Holds.slrd H22_ 3 rfl, (Holds.ro_at H22_ 0 rfl)⟩, ?_⟩
      refine A_ready (i := 4) (rs := [13]) (by kernel_rfl) ?_
      refine AllR.cons ?_ ?_
      · skip
        refine A_op (ls' := #[true, true, true, true, true, true, true, true, true, false, true, true, true, false, false, false, false, false]) rfl (by kernel_rfl) (T_val (v := (Value.int .i64 (po : Int))) (x_load1 rfl Try.underlying3 rfl ((Holds.rd H22_ 4 rfl) 1 (Value.int .i64 (po : Int)) rfl)) ?_)
        refine ⟨⟨Holds.rd H22_ 2 rfl, Holds.slrd H22_ 3 rfl, (Holds.ro_at H22_ 0 rfl)⟩, ?_⟩
        refine A_tk 9 (v := (Value.int .i64 ((po : Int) + (pd.length : Int)))) rfl (by kernel_rfl) (fun w hS => x_bin rfl rfl (ib_add (IntWalk.i64_in _ (by omega)))) hq23_ ?_
        refine A_ready (i := 13) (rs := []) (by kernel_rfl) ?_
        refine AllR.cons ?_ AllR.nil
        refine A_op (ls' := #[true, true, true, true, true, true, true, true, true, true, true, true, true, true, false, false, false, false]) rfl (by kernel_rfl) (T_val (v := (Value.int .i64 4096)) (x_load1 rfl Try.underlying3 rfl ((Holds.rd H22_ 4 rfl) 2 (Value.int .i64 4096) rfl)) ?_)
        refine ⟨⟨Holds.rd H22_ 2 rfl, Holds.slrd H22_ 3 rfl, (Holds.ro_at H22_ 0 rfl)⟩, ?_⟩
        refine A_tk 14 (v := (Value.int .i64 (((po + pd.length) % 4096 : Nat) : Int))) rfl (by kernel_rfl) (fun w hS => x_bin rfl rfl (ib_remN (x := po + pd.length) (y := 4096) (by omega) (by omega) (by omega) (by omega) rfl)) hq23_ ?_
        refine A_tk 15 (v := (Value.pointer (some ⟨pw, 0, none⟩))) rfl (by kernel_rfl) (fun w hS => by kernel_rfl) hq23_ ?_
        refine A_tk 16 (v := (Value.pointer (some ⟨pw, 1, none⟩))) rfl (by kernel_rfl) (fun w hS => by kernel_rfl) hq23_ ?_
        refine A_ready (i := 17) (rs := []) (by kernel_rfl) ?_
        refine AllR.cons ?_ AllR.nil
        refine A_op0 (ls' := #[true, true, true, true, true, true, true, true, true, true, true, true, true, true, true, true, true, true]) rfl (by kernel_rfl) (T_store1 (v := (Value.int .i64 (((po + pd.length) % 4096 : Nat) : Int))) rfl rfl z3 rfl H22_ 4 rfl (Nat.le_of_ble_eq_true (by rfl)) ?_)
        intro w50_ S52_ H51_
        replace H51_ : Holds w50_ (ro R :: cl bb 5 (bytesV pd ++ junk) :: cl pg 97 [V13_] :: sl 5 1 V13_ (List.length (os ++ pd)) (bytesV (os ++ pd)) :: cl pw 255 [(Value.iface 95 (Value.pointer (some ⟨pg, 0, none⟩))), (Value.int .i64 (((po + pd.length) % 4096 : Nat) : Int)), (Value.int .i64 4096), (Value.int .i64 (pd.length : Int)), (Value.slice (some ⟨bb, 0, none⟩) 135168 135168), (Value.int .i64 131072)] :: F) := H51_
        have S53_ := Same.trans (Same.trans S19_ (Same.drew _)) S52_
        refine ⟨⟨Holds.rd H51_ 2 rfl, Holds.slrd H51_ 3 rfl, (Holds.ro_at H51_ 0 rfl)⟩, ?_⟩
        refine A_done (by kernel_rfl) ?_
        refine (X_then (hK21_ _ _ ?_))
        clear hK21_
        refine C_seq (fun K54_ hK54_ => ?_)
        refine C_reg ?_
        refine S_list (T_val (v := (Value.pointer (some ⟨pw, 0, none⟩))) (x_move rfl) ?_)
        refine S_list (T_val (v := (Value.pointer (some ⟨pw, 0, none⟩))) (by kernel_rfl) ?_)
        refine S_list (T_val (v := (Value.pointer (some ⟨pw, 3, none⟩))) (by kernel_rfl) ?_)
        refine S_list0 (T_store1 (v := (Value.int .i64 0)) rfl rfl z3 rfl H51_ 4 rfl (Nat.le_of_ble_eq_true (by rfl)) ?_)
        intro w55_ S57_ H56_
        replace H56_ : Holds w55_ (ro R :: cl bb 5 (bytesV pd ++ junk) :: cl pg 97 [V13_] :: sl 5 1 V13_ (List.length (os ++ pd)) (bytesV (os ++ pd)) :: cl pw 255 [(Value.iface 95 (Value.pointer (some ⟨pg, 0, none⟩))), (Value.int .i64 (((po + pd.length) % 4096 : Nat) : Int)), (Value.int .i64 4096), (Value.int .i64 0), (Value.slice (some ⟨bb, 0, none⟩) 135168 135168), (Value.int .i64 131072)] :: F) := H56_
        have S58_ := Same.trans S53_ S57_
        refine wpList_nil ?_
        refine (X_then (hK54_ _ _ ?_))
        clear hK54_
        refine C_seq (fun K59_ hK59_ => ?_)
        refine C_reg ?_
        refine S_list (T_val (v := (Value.int .i64 (pd.length : Int))) (x_move rfl) ?_)
        refine S_list (T_val (v := (Value.nilIface)) (x_move rfl) ?_)
        refine S_list (T_val (v := (Value.int .i64 (pd.length : Int))) (x_assign rfl) ?_)
        refine S_list (T_val (v := (Value.nilIface)) (x_assign rfl) ?_)
        refine wpList_nil ?_
        refine (X_then (hK59_ _ _ ?_))
        clear hK59_
        refine C_ret ?_
        refine R_any (v := (Value.tuple #[(Value.int .i64 (pd.length : Int)), (Value.nilIface)])) (run_results2 rfl rfl rfl) ?_
        have H60_ : Holds w55_ (ro R :: cl bb 5 (bytesV [] ++ (bytesV pd ++ junk)) :: cl pg 97 [V13_] :: sl 5 1 V13_ (List.length (os ++ pd)) (bytesV (os ++ pd)) :: cl pw 255 [(Value.iface 95 (Value.pointer (some ⟨pg, 0, none⟩))), (Value.int .i64 (((po + pd.length) % 4096 : Nat) : Int)), (Value.int .i64 4096), (Value.int .i64 0), (Value.slice (some ⟨bb, 0, none⟩) 135168 135168), (Value.int .i64 131072)] :: F) := cast1 (P := fun (c__ : List Value) => Holds w55_ (ro R :: cl bb 5 c__ :: cl pg 97 [V13_] :: sl 5 1 V13_ (List.length (os ++ pd)) (bytesV (os ++ pd)) :: cl pw 255 [(Value.iface 95 (Value.pointer (some ⟨pg, 0, none⟩))), (Value.int .i64 (((po + pd.length) % 4096 : Nat) : Int)), (Value.int .i64 4096), (Value.int .i64 0), (Value.slice (some ⟨bb, 0, none⟩) 135168 135168), (Value.int .i64 131072)] :: F)) (rfl : bytesV pd ++ junk = bytesV [] ++ (bytesV pd ++ junk)) H56_
        have H61_ : Holds w55_ (ro R :: cl bb 5 (bytesV [] ++ (bytesV pd ++ junk)) :: cl pg 97 [V13_] :: sl 5 1 V13_ (List.length (os ++ pd)) (bytesV (os ++ pd)) :: cl pw 255 [(Value.iface 95 (Value.pointer (some ⟨pg, 0, none⟩))), (Value.int .i64 ((((po + pd.length) % 4096 : Nat) : Nat) : Int)), (Value.int .i64 4096), (Value.int .i64 0), (Value.slice (some ⟨bb, 0, none⟩) 135168 135168), (Value.int .i64 131072)] :: F) := cast1 (P := fun (c__ : List Value) => Holds w55_ (ro R :: cl bb 5 (bytesV [] ++ (bytesV pd ++ junk)) :: cl pg 97 [V13_] :: sl 5 1 V13_ (List.length (os ++ pd)) (bytesV (os ++ pd)) :: cl pw 255 c__ :: F)) ((lcons rfl (lcons (congrArg (Value.int .i64) ((by first | rfl | omega | (simp; done) | (simp; omega)) : (((po + pd.length) % 4096 : Nat) : Int) = ((((po + pd.length) % 4096 : Nat) : Nat) : Int))) rfl)) : [(Value.iface 95 (Value.pointer (some ⟨pg, 0, none⟩))), (Value.int .i64 (((po + pd.length) % 4096 : Nat) : Int)), (Value.int .i64 4096), (Value.int .i64 0), (Value.slice (some ⟨bb, 0, none⟩) 135168 135168), (Value.int .i64 131072)] = [(Value.iface 95 (Value.pointer (some ⟨pg, 0, none⟩))), (Value.int .i64 ((((po + pd.length) % 4096 : Nat) : Nat) : Int)), (Value.int .i64 4096), (Value.int .i64 0), (Value.slice (some ⟨bb, 0, none⟩) 135168 135168), (Value.int .i64 131072)]) H60_
        have H62_ : Holds w55_ (ro R :: cl pw 255 [(Value.iface 95 (Value.pointer (some ⟨pg, 0, none⟩))), (Value.int .i64 ((((po + pd.length) % 4096 : Nat) : Nat) : Int)), (Value.int .i64 4096), (Value.int .i64 0), (Value.slice (some ⟨bb, 0, none⟩) 135168 135168), (Value.int .i64 131072)] :: cl bb 5 (bytesV [] ++ (bytesV pd ++ junk)) :: cl pg 97 [V13_] :: sl 5 1 V13_ (List.length (os ++ pd)) (bytesV (os ++ pd)) :: F) := (Holds.bring (Holds.bring (Holds.bring (Holds.bring (Holds.bring H61_ 3 rfl) 3 rfl) 3 rfl) 4 rfl) 4 rfl)
        exact ⟨_, [cl pw 255 [(Value.iface 95 (Value.pointer (some ⟨pg, 0, none⟩))), (Value.int .i64 ((((po + pd.length) % 4096 : Nat) : Nat) : Int)), (Value.int .i64 4096), (Value.int .i64 0), (Value.slice (some ⟨bb, 0, none⟩) 135168 135168), (Value.int .i64 131072)], cl bb 5 (bytesV [] ++ (bytesV pd ++ junk)), cl pg 97 [V13_], sl 5 1 V13_ (List.length (os ++ pd)) (bytesV (os ++ pd))], rfl, ⟨(pd.length : Int), ((po + pd.length) % 4096 : Nat), (bytesV pd ++ junk), V13_, rfl, rfl, (by first | assumption | omega | exact rfl), (by rw [List.length_append, bytesV_len]; omega)⟩, S58_, H62_⟩
      refine AllR.cons ?_ AllR.nil
      refine A_op (ls' := #[true, true, true, true, false, true, true, true, true, false, true, true, true, true, false, false, false, false]) rfl (by kernel_rfl) (T_val (v := (Value.int .i64 4096)) (x_load1 rfl Try.underlying3 rfl ((Holds.rd H22_ 4 rfl) 2 (Value.int .i64 4096) rfl)) ?_)
      refine ⟨⟨Holds.rd H22_ 2 rfl, Holds.slrd H22_ 3 rfl, (Holds.ro_at H22_ 0 rfl)⟩, ?_⟩
      refine A_ready (i := 4) (rs := []) (by kernel_rfl) ?_
      refine AllR.cons ?_ AllR.nil
      refine A_op (ls' := #[true, true, true, true, true, true, true, true, true, false, true, true, true, true, false, false, false, false]) rfl (by kernel_rfl) (T_val (v := (Value.int .i64 (po : Int))) (x_load1 rfl Try.underlying3 rfl ((Holds.rd H22_ 4 rfl) 1 (Value.int .i64 (po : Int)) rfl)) ?_)
      refine ⟨⟨Holds.rd H22_ 2 rfl, Holds.slrd H22_ 3 rfl, (Holds.ro_at H22_ 0 rfl)⟩, ?_⟩
      refine A_tk 9 (v := (Value.int .i64 ((po : Int) + (pd.length : Int)))) rfl (by kernel_rfl) (fun w hS => x_bin rfl rfl (ib_add (IntWalk.i64_in _ (by omega)))) hq23_ ?_
      refine A_tk 14 (v := (Value.int .i64 (((po + pd.length) % 4096 : Nat) : Int))) rfl (by kernel_rfl) (fun w hS => x_bin rfl rfl (ib_remN (x := po + pd.length) (y := 4096) (by omega) (by omega) (by omega) (by omega) rfl)) hq23_ ?_
      refine A_tk 15 (v := (Value.pointer (some ⟨pw, 0, none⟩))) rfl (by kernel_rfl) (fun w hS => by kernel_rfl) hq23_ ?_
      refine A_tk 16 (v := (Value.pointer (some ⟨pw, 1, none⟩))) rfl (by kernel_rfl) (fun w hS => by kernel_rfl) hq23_ ?_
      refine A_ready (i := 17) (rs := []) (by kernel_rfl) ?_
      refine AllR.cons ?_ AllR.nil
      refine A_op0 (ls' := #[true, true, true, true, true, true, true, true, true, true, true, true, true, true, true, true, true, true]) rfl (by kernel_rfl) (T_store1 (v := (Value.int .i64 (((po + pd.length) % 4096 : Nat) : Int))) rfl rfl z3 rfl H22_ 4 rfl (Nat.le_of_ble_eq_true (by rfl)) ?_)
      intro w63_ S65_ H64_
      replace H64_ : Holds w63_ (ro R :: cl bb 5 (bytesV pd ++ junk) :: cl pg 97 [V13_] :: sl 5 1 V13_ (List.length (os ++ pd)) (bytesV (os ++ pd)) :: cl pw 255 [(Value.iface 95 (Value.pointer (some ⟨pg, 0, none⟩))), (Value.int .i64 (((po + pd.length) % 4096 : Nat) : Int)), (Value.int .i64 4096), (Value.int .i64 (pd.length : Int)), (Value.slice (some ⟨bb, 0, none⟩) 135168 135168), (Value.int .i64 131072)] :: F) := H64_
      have S66_ := Same.trans (Same.trans S19_ (Same.drew _)) S65_
      refine ⟨⟨Holds.rd H64_ 2 rfl, Holds.slrd H64_ 3 rfl, (Holds.ro_at H64_ 0 rfl)⟩, ?_⟩
      refine A_done (by kernel_rfl) ?_
      refine (X_then (hK21_ _ _ ?_))
      clear hK21_
      refine C_seq (fun K67_ hK67_ => ?_)
      refine C_reg ?_
      refine S_list (T_val (v := (Value.pointer (some ⟨pw, 0, none⟩))) (x_move rfl) ?_)
      refine S_list (T_val (v := (Value.pointer (some ⟨pw, 0, none⟩))) (by kernel_rfl) ?_)
      refine S_list (T_val (v := (Value.pointer (some ⟨pw, 3, none⟩))) (by kernel_rfl) ?_)
      refine S_list0 (T_store1 (v := (Value.int .i64 0)) rfl rfl z3 rfl H64_ 4 rfl (Nat.le_of_ble_eq_true (by rfl)) ?_)
      intro w68_ S70_ H69_
      replace H69_ : Holds w68_ (ro R :: cl bb 5 (bytesV pd ++ junk) :: cl pg 97 [V13_] :: sl 5 1 V13_ (List.length (os ++ pd)) (bytesV (os ++ pd)) :: cl pw 255 [(Value.iface 95 (Value.pointer (some ⟨pg, 0, none⟩))), (Value.int .i64 (((po + pd.length) % 4096 : Nat) : Int)), (Value.int .i64 4096), (Value.int .i64 0), (Value.slice (some ⟨bb, 0, none⟩) 135168 135168), (Value.int .i64 131072)] :: F) := H69_
      have S71_ := Same.trans S66_ S70_
      refine wpList_nil ?_
      refine (X_then (hK67_ _ _ ?_))
      clear hK67_
      refine C_seq (fun K72_ hK72_ => ?_)
      refine C_reg ?_
      refine S_list (T_val (v := (Value.int .i64 (pd.length : Int))) (x_move rfl) ?_)
      refine S_list (T_val (v := (Value.nilIface)) (x_move rfl) ?_)
      refine S_list (T_val (v := (Value.int .i64 (pd.length : Int))) (x_assign rfl) ?_)
      refine S_list (T_val (v := (Value.nilIface)) (x_assign rfl) ?_)
      refine wpList_nil ?_
      refine (X_then (hK72_ _ _ ?_))
      clear hK72_
      refine C_ret ?_
      refine R_any (v := (Value.tuple #[(Value.int .i64 (pd.length : Int)), (Value.nilIface)])) (run_results2 rfl rfl rfl) ?_
      have H73_ : Holds w68_ (ro R :: cl bb 5 (bytesV [] ++ (bytesV pd ++ junk)) :: cl pg 97 [V13_] :: sl 5 1 V13_ (List.length (os ++ pd)) (bytesV (os ++ pd)) :: cl pw 255 [(Value.iface 95 (Value.pointer (some ⟨pg, 0, none⟩))), (Value.int .i64 (((po + pd.length) % 4096 : Nat) : Int)), (Value.int .i64 4096), (Value.int .i64 0), (Value.slice (some ⟨bb, 0, none⟩) 135168 135168), (Value.int .i64 131072)] :: F) := cast1 (P := fun (c__ : List Value) => Holds w68_ (ro R :: cl bb 5 c__ :: cl pg 97 [V13_] :: sl 5 1 V13_ (List.length (os ++ pd)) (bytesV (os ++ pd)) :: cl pw 255 [(Value.iface 95 (Value.pointer (some ⟨pg, 0, none⟩))), (Value.int .i64 (((po + pd.length) % 4096 : Nat) : Int)), (Value.int .i64 4096), (Value.int .i64 0), (Value.slice (some ⟨bb, 0, none⟩) 135168 135168), (Value.int .i64 131072)] :: F)) (rfl : bytesV pd ++ junk = bytesV [] ++ (bytesV pd ++ junk)) H69_
      have H74_ : Holds w68_ (ro R :: cl bb 5 (bytesV [] ++ (bytesV pd ++ junk)) :: cl pg 97 [V13_] :: sl 5 1 V13_ (List.length (os ++ pd)) (bytesV (os ++ pd)) :: cl pw 255 [(Value.iface 95 (Value.pointer (some ⟨pg, 0, none⟩))), (Value.int .i64 ((((po + pd.length) % 4096 : Nat) : Nat) : Int)), (Value.int .i64 4096), (Value.int .i64 0), (Value.slice (some ⟨bb, 0, none⟩) 135168 135168), (Value.int .i64 131072)] :: F) := cast1 (P := fun (c__ : List Value) => Holds w68_ (ro R :: cl bb 5 (bytesV [] ++ (bytesV pd ++ junk)) :: cl pg 97 [V13_] :: sl 5 1 V13_ (List.length (os ++ pd)) (bytesV (os ++ pd)) :: cl pw 255 c__ :: F)) ((lcons rfl (lcons (congrArg (Value.int .i64) ((by first | rfl | omega | (simp; done) | (simp; omega)) : (((po + pd.length) % 4096 : Nat) : Int) = ((((po + pd.length) % 4096 : Nat) : Nat) : Int))) rfl)) : [(Value.iface 95 (Value.pointer (some ⟨pg, 0, none⟩))), (Value.int .i64 (((po + pd.length) % 4096 : Nat) : Int)), (Value.int .i64 4096), (Value.int .i64 0), (Value.slice (some ⟨bb, 0, none⟩) 135168 135168), (Value.int .i64 131072)] = [(Value.iface 95 (Value.pointer (some ⟨pg, 0, none⟩))), (Value.int .i64 ((((po + pd.length) % 4096 : Nat) : Nat) : Int)), (Value.int .i64 4096), (Value.int .i64 0), (Value.slice (some ⟨bb, 0, none⟩) 135168 135168), (Value.int .i64 131072)]) H73_
      have H75_ : Holds w68_ (ro R :: cl pw 255 [(Value.iface 95 (Value.pointer (some ⟨pg, 0, none⟩))), (Value.int .i64 ((((po + pd.length) % 4096 : Nat) : Nat) : Int)), (Value.int .i64 4096), (Value.int .i64 0), (Value.slice (some ⟨bb, 0, none⟩) 135168 135168), (Value.int .i64 131072)] :: cl bb 5 (bytesV [] ++ (bytesV pd ++ junk)) :: cl pg 97 [V13_] :: sl 5 1 V13_ (List.length (os ++ pd)) (bytesV (os ++ pd)) :: F) := (Holds.bring (Holds.bring (Holds.bring (Holds.bring (Holds.bring H74_ 3 rfl) 3 rfl) 3 rfl) 4 rfl) 4 rfl)
      exact ⟨_, [cl pw 255 [(Value.iface 95 (Value.pointer (some ⟨pg, 0, none⟩))), (Value.int .i64 ((((po + pd.length) % 4096 : Nat) : Nat) : Int)), (Value.int .i64 4096), (Value.int .i64 0), (Value.slice (some ⟨bb, 0, none⟩) 135168 135168), (Value.int .i64 131072)], cl bb 5 (bytesV [] ++ (bytesV pd ++ junk)), cl pg 97 [V13_], sl 5 1 V13_ (List.length (os ++ pd)) (bytesV (os ++ pd))], rfl, ⟨(pd.length : Int), ((po + pd.length) % 4096 : Nat), (bytesV pd ++ junk), V13_, rfl, rfl, (by first | assumption | omega | exact rfl), (by rw [List.length_append, bytesV_len]; omega)⟩, S71_, H75_⟩
    refine AllR.cons ?_ AllR.nil
    refine A_op (ls' := #[true, true, true, true, false, true, true, true, false, false, true, true, true, true, false, false, false, false]) rfl (by kernel_rfl) (T_val (v := (Value.int .i64 4096)) (x_load1 rfl Try.underlying3 rfl ((Holds.rd H22_ 4 rfl) 2 (Value.int .i64 4096) rfl)) ?_)
    refine ⟨⟨Holds.rd H22_ 2 rfl, Holds.slrd H22_ 3 rfl, (Holds.ro_at H22_ 0 rfl)⟩, ?_⟩
    refine A_ready (i := 4) (rs := [8]) (by kernel_rfl) ?_
    refine AllR.cons ?_ ?_
    · skip
      refine A_op (ls' := #[true, true, true, true, true, true, true, true, false, false, true, true, true, true, false, false, false, false]) rfl (by kernel_rfl) (T_val (v := (Value.int .i64 (po : Int))) (x_load1 rfl Try.underlying3 rfl ((Holds.rd H22_ 4 rfl) 1 (Value.int .i64 (po : Int)) rfl)) ?_)
      refine ⟨⟨Holds.rd H22_ 2 rfl, Holds.slrd H22_ 3 rfl, (Holds.ro_at H22_ 0 rfl)⟩, ?_⟩
      refine A_ready (i := 8) (rs := []) (by kernel_rfl) ?_
      refine AllR.cons ?_ AllR.nil
      refine A_op (ls' := #[true, true, true, true, true, true, true, true, true, false, true, true, true, true, false, false, false, false]) rfl (by kernel_rfl) (T_val (v := (Value.int .i64 (pd.length : Int))) (x_load1 rfl Try.underlying3 rfl ((Holds.rd H22_ 4 rfl) 3 (Value.int .i64 (pd.length : Int)) rfl)) ?_)
      refine ⟨⟨Holds.rd H22_ 2 rfl, Holds.slrd H22_ 3 rfl, (Holds.ro_at H22_ 0 rfl)⟩, ?_⟩
      refine A_tk 9 (v := (Value.int .i64 ((po : Int) + (pd.length : Int)))) rfl (by kernel_rfl) (fun w hS => x_bin rfl rfl (ib_add (IntWalk.i64_in _ (by omega)))) hq23_ ?_
      refine A_tk 14 (v := (Value.int .i64 (((po + pd.length) % 4096 : Nat) : Int))) rfl (by kernel_rfl) (fun w hS => x_bin rfl rfl (ib_remN (x := po + pd.length) (y := 4096) (by omega) (by omega) (by omega) (by omega) rfl)) hq23_ ?_
      refine A_tk 15 (v := (Value.pointer (some ⟨pw, 0, none⟩))) rfl (by kernel_rfl) (fun w hS => by kernel_rfl) hq23_ ?_
      refine A_tk 16 (v := (Value.pointer (some ⟨pw, 1, none⟩))) rfl (by kernel_rfl) (fun w hS => by kernel_rfl) hq23_ ?_
      refine A_ready (i := 17) (rs := []) (by kernel_rfl) ?_
      refine AllR.cons ?_ AllR.nil
      refine A_op0 (ls' := #[true, true, true, true, true, true, true, true, true, true, true, true, true, true, true, true, true, true]) rfl (by kernel_rfl) (T_store1 (v := (Value.int .i64 (((po + pd.length) % 4096 : Nat) : Int))) rfl rfl z3 rfl H22_ 4 rfl (Nat.le_of_ble_eq_true (by rfl)) ?_)
      intro w76_ S78_ H77_
      replace H77_ : Holds w76_ (ro R :: cl bb 5 (bytesV pd ++ junk) :: cl pg 97 [V13_] :: sl 5 1 V13_ (List.length (os ++ pd)) (bytesV (os ++ pd)) :: cl pw 255 [(Value.iface 95 (Value.pointer (some ⟨pg, 0, none⟩))), (Value.int .i64 (((po + pd.length) % 4096 : Nat) : Int)), (Value.int .i64 4096), (Value.int .i64 (pd.length : Int)), (Value.slice (some ⟨bb, 0, none⟩) 135168 135168), (Value.int .i64 131072)] :: F) := H77_
      have S79_ := Same.trans (Same.trans S19_ (Same.drew _)) S78_
      refine ⟨⟨Holds.rd H77_ 2 rfl, Holds.slrd H77_ 3 rfl, (Holds.ro_at H77_ 0 rfl)⟩, ?_⟩
      refine A_done (by kernel_rfl) ?_
      refine (X_then (hK21_ _ _ ?_))
      clear hK21_
      refine C_seq (fun K80_ hK80_ => ?_)
      refine C_reg ?_
      refine S_list (T_val (v := (Value.pointer (some ⟨pw, 0, none⟩))) (x_move rfl) ?_)
      refine S_list (T_val (v := (Value.pointer (some ⟨pw, 0, none⟩))) (by kernel_rfl) ?_)
      refine S_list (T_val (v := (Value.pointer (some ⟨pw, 3, none⟩))) (by kernel_rfl) ?_)
      refine S_list0 (T_store1 (v := (Value.int .i64 0)) rfl rfl z3 rfl H77_ 4 rfl (Nat.le_of_ble_eq_true (by rfl)) ?_)
      intro w81_ S83_ H82_
      replace H82_ : Holds w81_ (ro R :: cl bb 5 (bytesV pd ++ junk) :: cl pg 97 [V13_] :: sl 5 1 V13_ (List.length (os ++ pd)) (bytesV (os ++ pd)) :: cl pw 255 [(Value.iface 95 (Value.pointer (some ⟨pg, 0, none⟩))), (Value.int .i64 (((po + pd.length) % 4096 : Nat) : Int)), (Value.int .i64 4096), (Value.int .i64 0), (Value.slice (some ⟨bb, 0, none⟩) 135168 135168), (Value.int .i64 131072)] :: F) := H82_
      have S84_ := Same.trans S79_ S83_
      refine wpList_nil ?_
      refine (X_then (hK80_ _ _ ?_))
      clear hK80_
      refine C_seq (fun K85_ hK85_ => ?_)
      refine C_reg ?_
      refine S_list (T_val (v := (Value.int .i64 (pd.length : Int))) (x_move rfl) ?_)
      refine S_list (T_val (v := (Value.nilIface)) (x_move rfl) ?_)
      refine S_list (T_val (v := (Value.int .i64 (pd.length : Int))) (x_assign rfl) ?_)
      refine S_list (T_val (v := (Value.nilIface)) (x_assign rfl) ?_)
      refine wpList_nil ?_
      refine (X_then (hK85_ _ _ ?_))
      clear hK85_
      refine C_ret ?_
      refine R_any (v := (Value.tuple #[(Value.int .i64 (pd.length : Int)), (Value.nilIface)])) (run_results2 rfl rfl rfl) ?_
      have H86_ : Holds w81_ (ro R :: cl bb 5 (bytesV [] ++ (bytesV pd ++ junk)) :: cl pg 97 [V13_] :: sl 5 1 V13_ (List.length (os ++ pd)) (bytesV (os ++ pd)) :: cl pw 255 [(Value.iface 95 (Value.pointer (some ⟨pg, 0, none⟩))), (Value.int .i64 (((po + pd.length) % 4096 : Nat) : Int)), (Value.int .i64 4096), (Value.int .i64 0), (Value.slice (some ⟨bb, 0, none⟩) 135168 135168), (Value.int .i64 131072)] :: F) := cast1 (P := fun (c__ : List Value) => Holds w81_ (ro R :: cl bb 5 c__ :: cl pg 97 [V13_] :: sl 5 1 V13_ (List.length (os ++ pd)) (bytesV (os ++ pd)) :: cl pw 255 [(Value.iface 95 (Value.pointer (some ⟨pg, 0, none⟩))), (Value.int .i64 (((po + pd.length) % 4096 : Nat) : Int)), (Value.int .i64 4096), (Value.int .i64 0), (Value.slice (some ⟨bb, 0, none⟩) 135168 135168), (Value.int .i64 131072)] :: F)) (rfl : bytesV pd ++ junk = bytesV [] ++ (bytesV pd ++ junk)) H82_
      have H87_ : Holds w81_ (ro R :: cl bb 5 (bytesV [] ++ (bytesV pd ++ junk)) :: cl pg 97 [V13_] :: sl 5 1 V13_ (List.length (os ++ pd)) (bytesV (os ++ pd)) :: cl pw 255 [(Value.iface 95 (Value.pointer (some ⟨pg, 0, none⟩))), (Value.int .i64 ((((po + pd.length) % 4096 : Nat) : Nat) : Int)), (Value.int .i64 4096), (Value.int .i64 0), (Value.slice (some ⟨bb, 0, none⟩) 135168 135168), (Value.int .i64 131072)] :: F) := cast1 (P := fun (c__ : List Value) => Holds w81_ (ro R :: cl bb 5 (bytesV [] ++ (bytesV pd ++ junk)) :: cl pg 97 [V13_] :: sl 5 1 V13_ (List.length (os ++ pd)) (bytesV (os ++ pd)) :: cl pw 255 c__ :: F)) ((lcons rfl (lcons (congrArg (Value.int .i64) ((by first | rfl | omega | (simp; done) | (simp; omega)) : (((po + pd.length) % 4096 : Nat) : Int) = ((((po + pd.length) % 4096 : Nat) : Nat) : Int))) rfl)) : [(Value.iface 95 (Value.pointer (some ⟨pg, 0, none⟩))), (Value.int .i64 (((po + pd.length) % 4096 : Nat) : Int)), (Value.int .i64 4096), (Value.int .i64 0), (Value.slice (some ⟨bb, 0, none⟩) 135168 135168), (Value.int .i64 131072)] = [(Value.iface 95 (Value.pointer (some ⟨pg, 0, none⟩))), (Value.int .i64 ((((po + pd.length) % 4096 : Nat) : Nat) : Int)), (Value.int .i64 4096), (Value.int .i64 0), (Value.slice (some ⟨bb, 0, none⟩) 135168 135168), (Value.int .i64 131072)]) H86_
      have H88_ : Holds w81_ (ro R :: cl pw 255 [(Value.iface 95 (Value.pointer (some ⟨pg, 0, none⟩))), (Value.int .i64 ((((po + pd.length) % 4096 : Nat) : Nat) : Int)), (Value.int .i64 4096), (Value.int .i64 0), (Value.slice (some ⟨bb, 0, none⟩) 135168 135168), (Value.int .i64 131072)] :: cl bb 5 (bytesV [] ++ (bytesV pd ++ junk)) :: cl pg 97 [V13_] :: sl 5 1 V13_ (List.length (os ++ pd)) (bytesV (os ++ pd)) :: F) := (Holds.bring (Holds.bring (Holds.bring (Holds.bring (Holds.bring H87_ 3 rfl) 3 rfl) 3 rfl) 4 rfl) 4 rfl)
      exact ⟨_, [cl pw 255 [(Value.iface 95 (Value.pointer (some ⟨pg, 0, none⟩))), (Value.int .i64 ((((po + pd.length) % 4096 : Nat) : Nat) : Int)), (Value.int .i64 4096), (Value.int .i64 0), (Value.slice (some ⟨bb, 0, none⟩) 135168 135168), (Value.int .i64 131072)], cl bb 5 (bytesV [] ++ (bytesV pd ++ junk)), cl pg 97 [V13_], sl 5 1 V13_ (List.length (os ++ pd)) (bytesV (os ++ pd))], rfl, ⟨(pd.length : Int), ((po + pd.length) % 4096 : Nat), (bytesV pd ++ junk), V13_, rfl, rfl, (by first | assumption | omega | exact rfl), (by rw [List.length_append, bytesV_len]; omega)⟩, S84_, H88_⟩
    refine AllR.cons ?_ AllR.nil
    refine A_op (ls' := #[true, true, true, true, false, true, true, true, true, false, true, true, true, true, false, false, false, false]) rfl (by kernel_rfl) (T_val (v := (Value.int .i64 (pd.length : Int))) (x_load1 rfl Try.underlying3 rfl ((Holds.rd H22_ 4 rfl) 3 (Value.int .i64 (pd.length : Int)) rfl)) ?_)
    refine ⟨⟨Holds.rd H22_ 2 rfl, Holds.slrd H22_ 3 rfl, (Holds.ro_at H22_ 0 rfl)⟩, ?_⟩
    refine A_ready (i := 4) (rs := []) (by kernel_rfl) ?_
    refine AllR.cons ?_ AllR.nil
    refine A_op (ls' := #[true, true, true, true, true, true, true, true, true, false, true, true, true, true, false, false, false, false]) rfl (by kernel_rfl) (T_val (v := (Value.int .i64 (po : Int))) (x_load1 rfl Try.underlying3 rfl ((Holds.rd H22_ 4 rfl) 1 (Value.int .i64 (po : Int)) rfl)) ?_)
    refine ⟨⟨Holds.rd H22_ 2 rfl, Holds.slrd H22_ 3 rfl, (Holds.ro_at H22_ 0 rfl)⟩, ?_⟩
    refine A_tk 9 (v := (Value.int .i64 ((po : Int) + (pd.length : Int)))) rfl (by kernel_rfl) (fun w hS => x_bin rfl rfl (ib_add (IntWalk.i64_in _ (by omega)))) hq23_ ?_
    refine A_tk 14 (v := (Value.int .i64 (((po + pd.length) % 4096 : Nat) : Int))) rfl (by kernel_rfl) (fun w hS => x_bin rfl rfl (ib_remN (x := po + pd.length) (y := 4096) (by omega) (by omega) (by omega) (by omega) rfl)) hq23_ ?_
    refine A_tk 15 (v := (Value.pointer (some ⟨pw, 0, none⟩))) rfl (by kernel_rfl) (fun w hS => by kernel_rfl) hq23_ ?_
    refine A_tk 16 (v := (Value.pointer (some ⟨pw, 1, none⟩))) rfl (by kernel_rfl) (fun w hS => by kernel_rfl) hq23_ ?_
    refine A_ready (i := 17) (rs := []) (by kernel_rfl) ?_
    refine AllR.cons ?_ AllR.nil
    refine A_op0 (ls' := #[true, true, true, true, true, true, true, true, true, true, true, true, true, true, true, true, true, true]) rfl (by kernel_rfl) (T_store1 (v := (Value.int .i64 (((po + pd.length) % 4096 : Nat) : Int))) rfl rfl z3 rfl H22_ 4 rfl (Nat.le_of_ble_eq_true (by rfl)) ?_)
    intro w89_ S91_ H90_
    replace H90_ : Holds w89_ (ro R :: cl bb 5 (bytesV pd ++ junk) :: cl pg 97 [V13_] :: sl 5 1 V13_ (List.length (os ++ pd)) (bytesV (os ++ pd)) :: cl pw 255 [(Value.iface 95 (Value.pointer (some ⟨pg, 0, none⟩))), (Value.int .i64 (((po + pd.length) % 4096 : Nat) : Int)), (Value.int .i64 4096), (Value.int .i64 (pd.length : Int)), (Value.slice (some ⟨bb, 0, none⟩) 135168 135168), (Value.int .i64 131072)] :: F) := H90_
    have S92_ := Same.trans (Same.trans S19_ (Same.drew _)) S91_
    refine ⟨⟨Holds.rd H90_ 2 rfl, Holds.slrd H90_ 3 rfl, (Holds.ro_at H90_ 0 rfl)⟩, ?_⟩
    refine A_done (by kernel_rfl) ?_
    refine (X_then (hK21_ _ _ ?_))
    clear hK21_
    refine C_seq (fun K93_ hK93_ => ?_)
    refine C_reg ?_
    refine S_list (T_val (v := (Value.pointer (some ⟨pw, 0, none⟩))) (x_move rfl) ?_)
    refine S_list (T_val (v := (Value.pointer (some ⟨pw, 0, none⟩))) (by kernel_rfl) ?_)
    refine S_list (T_val (v := (Value.pointer (some ⟨pw, 3, none⟩))) (by kernel_rfl) ?_)
    refine S_list0 (T_store1 (v := (Value.int .i64 0)) rfl rfl z3 rfl H90_ 4 rfl (Nat.le_of_ble_eq_true (by rfl)) ?_)
    intro w94_ S96_ H95_
    replace H95_ : Holds w94_ (ro R :: cl bb 5 (bytesV pd ++ junk) :: cl pg 97 [V13_] :: sl 5 1 V13_ (List.length (os ++ pd)) (bytesV (os ++ pd)) :: cl pw 255 [(Value.iface 95 (Value.pointer (some ⟨pg, 0, none⟩))), (Value.int .i64 (((po + pd.length) % 4096 : Nat) : Int)), (Value.int .i64 4096), (Value.int .i64 0), (Value.slice (some ⟨bb, 0, none⟩) 135168 135168), (Value.int .i64 131072)] :: F) := H95_
    have S97_ := Same.trans S92_ S96_
    refine wpList_nil ?_
    refine (X_then (hK93_ _ _ ?_))
    clear hK93_
    refine C_seq (fun K98_ hK98_ => ?_)
    refine C_reg ?_
    refine S_list (T_val (v := (Value.int .i64 (pd.length : Int))) (x_move rfl) ?_)
    refine S_list (T_val (v := (Value.nilIface)) (x_move rfl) ?_)
    refine S_list (T_val (v := (Value.int .i64 (pd.length : Int))) (x_assign rfl) ?_)
    refine S_list (T_val (v := (Value.nilIface)) (x_assign rfl) ?_)
    refine wpList_nil ?_
    refine (X_then (hK98_ _ _ ?_))
    clear hK98_
    refine C_ret ?_
    refine R_any (v := (Value.tuple #[(Value.int .i64 (pd.length : Int)), (Value.nilIface)])) (run_results2 rfl rfl rfl) ?_
    have H99_ : Holds w94_ (ro R :: cl bb 5 (bytesV [] ++ (bytesV pd ++ junk)) :: cl pg 97 [V13_] :: sl 5 1 V13_ (List.length (os ++ pd)) (bytesV (os ++ pd)) :: cl pw 255 [(Value.iface 95 (Value.pointer (some ⟨pg, 0, none⟩))), (Value.int .i64 (((po + pd.length) % 4096 : Nat) : Int)), (Value.int .i64 4096), (Value.int .i64 0), (Value.slice (some ⟨bb, 0, none⟩) 135168 135168), (Value.int .i64 131072)] :: F) := cast1 (P := fun (c__ : List Value) => Holds w94_ (ro R :: cl bb 5 c__ :: cl pg 97 [V13_] :: sl 5 1 V13_ (List.length (os ++ pd)) (bytesV (os ++ pd)) :: cl pw 255 [(Value.iface 95 (Value.pointer (some ⟨pg, 0, none⟩))), (Value.int .i64 (((po + pd.length) % 4096 : Nat) : Int)), (Value.int .i64 4096), (Value.int .i64 0), (Value.slice (some ⟨bb, 0, none⟩) 135168 135168), (Value.int .i64 131072)] :: F)) (rfl : bytesV pd ++ junk = bytesV [] ++ (bytesV pd ++ junk)) H95_
    have H100_ : Holds w94_ (ro R :: cl bb 5 (bytesV [] ++ (bytesV pd ++ junk)) :: cl pg 97 [V13_] :: sl 5 1 V13_ (List.length (os ++ pd)) (bytesV (os ++ pd)) :: cl pw 255 [(Value.iface 95 (Value.pointer (some ⟨pg, 0, none⟩))), (Value.int .i64 ((((po + pd.length) % 4096 : Nat) : Nat) : Int)), (Value.int .i64 4096), (Value.int .i64 0), (Value.slice (some ⟨bb, 0, none⟩) 135168 135168), (Value.int .i64 131072)] :: F) := cast1 (P := fun (c__ : List Value) => Holds w94_ (ro R :: cl bb 5 (bytesV [] ++ (bytesV pd ++ junk)) :: cl pg 97 [V13_] :: sl 5 1 V13_ (List.length (os ++ pd)) (bytesV (os ++ pd)) :: cl pw 255 c__ :: F)) ((lcons rfl (lcons (congrArg (Value.int .i64) ((by first | rfl | omega | (simp; done) | (simp; omega)) : (((po + pd.length) % 4096 : Nat) : Int) = ((((po + pd.length) % 4096 : Nat) : Nat) : Int))) rfl)) : [(Value.iface 95 (Value.pointer (some ⟨pg, 0, none⟩))), (Value.int .i64 (((po + pd.length) % 4096 : Nat) : Int)), (Value.int .i64 4096), (Value.int .i64 0), (Value.slice (some ⟨bb, 0, none⟩) 135168 135168), (Value.int .i64 131072)] = [(Value.iface 95 (Value.pointer (some ⟨pg, 0, none⟩))), (Value.int .i64 ((((po + pd.length) % 4096 : Nat) : Nat) : Int)), (Value.int .i64 4096), (Value.int .i64 0), (Value.slice (some ⟨bb, 0, none⟩) 135168 135168), (Value.int .i64 131072)]) H99_
    have H101_ : Holds w94_ (ro R :: cl pw 255 [(Value.iface 95 (Value.pointer (some ⟨pg, 0, none⟩))), (Value.int .i64 ((((po + pd.length) % 4096 : Nat) : Nat) : Int)), (Value.int .i64 4096), (Value.int .i64 0), (Value.slice (some ⟨bb, 0, none⟩) 135168 135168), (Value.int .i64 131072)] :: cl bb 5 (bytesV [] ++ (bytesV pd ++ junk)) :: cl pg 97 [V13_] :: sl 5 1 V13_ (List.length (os ++ pd)) (bytesV (os ++ pd)) :: F) := (Holds.bring (Holds.bring (Holds.bring (Holds.bring (Holds.bring H100_ 3 rfl) 3 rfl) 3 rfl) 4 rfl) 4 rfl)
    exact ⟨_, [cl pw 255 [(Value.iface 95 (Value.pointer (some ⟨pg, 0, none⟩))), (Value.int .i64 ((((po + pd.length) % 4096 : Nat) : Nat) : Int)), (Value.int .i64 4096), (Value.int .i64 0), (Value.slice (some ⟨bb, 0, none⟩) 135168 135168), (Value.int .i64 131072)], cl bb 5 (bytesV [] ++ (bytesV pd ++ junk)), cl pg 97 [V13_], sl 5 1 V13_ (List.length (os ++ pd)) (bytesV (os ++ pd))], rfl, ⟨(pd.length : Int), ((po + pd.length) % 4096 : Nat), (bytesV pd ++ junk), V13_, rfl, rfl, (by first | assumption | omega | exact rfl), (by rw [List.length_append, bytesV_len]; omega)⟩, S97_, H101_⟩
end Go.Proofs.Ytgeggiebefonhaa
