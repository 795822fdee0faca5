/- What the writer of pages does: a write. -/
import Derived.Test.YtgeggiebefonhaaWaE0
set_option linter.unusedVariables false
set_option linter.unusedSimpArgs false
namespace Go.Proofs.Ytgeggiebefonhaa
open Go Go.RowKit Gw

theorem tk_all (k : Nat) (ns : List Int) : (List.drop k ns).take (ns.length - k) = List.drop k ns := List.take_of_length_le (by simp)
theorem tk_all2 (k t : Nat) (ns : List Int) : (List.drop t (List.drop k ns)).take ((ns.length - k) - t) = List.drop t (List.drop k ns) := List.take_of_length_le (by simp only [List.length_drop]; omega)
theorem buf_put (pd ns : List Int) (junk : List Value) : List.take pd.length (bytesV pd ++ junk) ++ bytesV ns ++ List.drop (pd.length + (bytesV ns).length) (bytesV pd ++ junk) = bytesV (pd ++ ns) ++ junk.drop ns.length := by
  have e : (bytesV pd).length = pd.length := bytesV_len pd
  rw [← e, List.take_left, List.drop_append, List.drop_eq_nil_of_le (by omega), bytesV_len ns, show (bytesV pd).length + ns.length - (bytesV pd).length = ns.length by omega]
  simp [bytesV]

set_option maxHeartbeats 400000 in
theorem wWriteFit (R : HP) (pw bb pg po : Nat) (pd : List Int) (junk : List Value) (V : Value) (os : List Int) (p : Value) (ns : List Int) (hP : RS R 1 p ns.length (bytesV ns)) (q1 : po ≤ 2097152) (hj : pd.length + junk.length = 135168) (q3 : os.length + pd.length ≤ 90000000) (q4 : ns.length + pd.length ≤ 131072) :
    Tri Try.prog 166 #[(Value.pointer (some ⟨pw, 0, none⟩)), p] R [cl pw 255 [(Value.iface 95 (Value.pointer (some ⟨pg, 0, none⟩))), (Value.int .i64 (po : Int)), (Value.int .i64 4096), (Value.int .i64 (pd.length : Int)), (Value.slice (some ⟨bb, 0, none⟩) 135168 135168), (Value.int .i64 131072)], cl bb 5 (bytesV pd ++ junk), cl pg 97 [V], sl 5 1 V (List.length os) (bytesV os)] (fun v__ post__ => ∃ (junk' : List Value), v__ = (Value.tuple #[(Value.int .i64 (ns.length : Int)), (Value.nilIface)]) ∧ post__ = [cl pw 255 [(Value.iface 95 (Value.pointer (some ⟨pg, 0, none⟩))), (Value.int .i64 (po : Int)), (Value.int .i64 4096), (Value.int .i64 ((pd ++ ns).length : Int)), (Value.slice (some ⟨bb, 0, none⟩) 135168 135168), (Value.int .i64 131072)], cl bb 5 (bytesV (pd ++ ns) ++ junk'), cl pg 97 [V], sl 5 1 V (List.length os) (bytesV os)] ∧ ((pd ++ ns).length + junk'.length = 135168)) := by
  refine Tri.into (n := 170) (al := [(Value.pointer (some ⟨pw, 0, none⟩)), p]) Try.func166 rfl Try.ntmps166 rfl rfl fun w F H => ?_
  replace H : Holds w (ro R :: cl pw 255 [(Value.iface 95 (Value.pointer (some ⟨pg, 0, none⟩))), (Value.int .i64 (po : Int)), (Value.int .i64 4096), (Value.int .i64 (pd.length : Int)), (Value.slice (some ⟨bb, 0, none⟩) 135168 135168), (Value.int .i64 131072)] :: cl bb 5 (bytesV pd ++ junk) :: cl pg 97 [V] :: sl 5 1 V (List.length os) (bytesV os) :: F) := H
  refine C_seq (fun K1_ hK1_ => ?_)
  refine C_reg ?_
  refine S_list (T_val (v := (Value.int .i64 0)) (x_assign rfl) ?_)
  refine S_list (T_val (v := (Value.nilIface)) (x_assign rfl) ?_)
  refine wpList_nil ?_
  refine (X_then (hK1_ _ _ ?_))
  clear hK1_
  refine C_seq (fun K2_ hK2_ => ?_)
  refine C_seq (fun K3_ hK3_ => ?_)
  refine A_start (S := fun w => Rd pw [(Value.iface 95 (Value.pointer (some ⟨pg, 0, none⟩))), (Value.int .i64 (po : Int)), (Value.int .i64 4096), (Value.int .i64 (pd.length : Int)), (Value.slice (some ⟨bb, 0, none⟩) 135168 135168), (Value.int .i64 131072)] w ∧ Rd pg [V] w ∧ SlRd V (bytesV os) w ∧ Sub R (hp w)) (N := 12) foll rfl rfl ?_
  have H4_ : Holds w.drew (ro R :: cl pw 255 [(Value.iface 95 (Value.pointer (some ⟨pg, 0, none⟩))), (Value.int .i64 (po : Int)), (Value.int .i64 4096), (Value.int .i64 (pd.length : Int)), (Value.slice (some ⟨bb, 0, none⟩) 135168 135168), (Value.int .i64 131072)] :: cl bb 5 (bytesV pd ++ junk) :: cl pg 97 [V] :: sl 5 1 V (List.length os) (bytesV os) :: F) := H
  have hq5_ := And.intro (Holds.rd H4_ 1 rfl) (And.intro (Holds.rd H4_ 3 rfl) (And.intro (Holds.slrd H4_ 4 rfl) ((Holds.ro_at H4_ 0 rfl))))
  refine A_tk 0 (v := p) rfl (by kernel_rfl) (fun w hS => x_move rfl) hq5_ ?_
  refine A_tk 1 (v := (Value.int .i64 (ns.length : Int))) rfl (by kernel_rfl) (fun w hS => x_lenRS rfl hP Try.underlying43) hq5_ ?_
  refine A_tk 2 (v := (Value.pointer (some ⟨pw, 0, none⟩))) rfl (by kernel_rfl) (fun w hS => x_move rfl) hq5_ ?_
  refine A_tk 3 (v := (Value.pointer (some ⟨pw, 0, none⟩))) rfl (by kernel_rfl) (fun w hS => by kernel_rfl) hq5_ ?_
  refine A_tk 4 (v := (Value.pointer (some ⟨pw, 3, none⟩))) rfl (by kernel_rfl) (fun w hS => by kernel_rfl) hq5_ ?_
  refine A_tk 5 (v := (Value.int .i64 (pd.length : Int))) rfl (by kernel_rfl) (fun w hS => x_load1 rfl Try.underlying3 rfl (hS.1 3 (Value.int .i64 (pd.length : Int)) rfl)) hq5_ ?_
  refine A_tk 6 (v := (Value.int .i64 ((ns.length : Int) + (pd.length : Int)))) rfl (by kernel_rfl) (fun w hS => x_bin rfl rfl (ib_add (IntWalk.i64_in _ (by omega)))) hq5_ ?_
  refine A_tk 7 (v := (Value.pointer (some ⟨pw, 0, none⟩))) rfl (by kernel_rfl) (fun w hS => x_move rfl) hq5_ ?_
  refine A_tk 8 (v := (Value.pointer (some ⟨pw, 0, none⟩))) rfl (by kernel_rfl) (fun w hS => by kernel_rfl) hq5_ ?_
  refine A_tk 9 (v := (Value.pointer (some ⟨pw, 5, none⟩))) rfl (by kernel_rfl) (fun w hS => by kernel_rfl) hq5_ ?_
  refine A_tk 10 (v := (Value.int .i64 131072)) rfl (by kernel_rfl) (fun w hS => x_load1 rfl Try.underlying3 rfl (hS.1 5 (Value.int .i64 131072) rfl)) hq5_ ?_
  refine A_tk 11 (v := (Value.bool (decide ((ns.length : Int) + (pd.length : Int) ≤ 131072)))) rfl (by kernel_rfl) (fun w hS => x_bin rfl rfl rfl) hq5_ ?_
  refine A_done (by kernel_rfl) ?_
  refine (X_then (hK3_ _ _ ?_))
  clear hK3_
  refine C_cond (b := decide ((ns.length : Int) + (pd.length : Int) ≤ 131072)) rfl (fun c6_t => ?_) (fun c6_f => ?_)
  · have c6_tp : (ns.length : Int) + (pd.length : Int) ≤ 131072 := of_decide_eq_true c6_t
    refine C_seq (fun K7_ hK7_ => ?_)
    refine A_start (S := fun w => Rd pw [(Value.iface 95 (Value.pointer (some ⟨pg, 0, none⟩))), (Value.int .i64 (po : Int)), (Value.int .i64 4096), (Value.int .i64 (pd.length : Int)), (Value.slice (some ⟨bb, 0, none⟩) 135168 135168), (Value.int .i64 131072)] w ∧ Rd pg [V] w ∧ SlRd V (bytesV os) w ∧ Sub R (hp w)) (N := 11) foll rfl rfl ?_
    have H8_ : Holds w.drew.drew (ro R :: cl pw 255 [(Value.iface 95 (Value.pointer (some ⟨pg, 0, none⟩))), (Value.int .i64 (po : Int)), (Value.int .i64 4096), (Value.int .i64 (pd.length : Int)), (Value.slice (some ⟨bb, 0, none⟩) 135168 135168), (Value.int .i64 131072)] :: cl bb 5 (bytesV pd ++ junk) :: cl pg 97 [V] :: sl 5 1 V (List.length os) (bytesV os) :: F) := H4_
    have hq9_ := And.intro (Holds.rd H8_ 1 rfl) (And.intro (Holds.rd H8_ 3 rfl) (And.intro (Holds.slrd H8_ 4 rfl) ((Holds.ro_at H8_ 0 rfl))))
    refine A_tk 0 (v := (Value.pointer (some ⟨pw, 0, none⟩))) rfl (by kernel_rfl) (fun w hS => x_move rfl) hq9_ ?_
    refine A_tk 1 (v := (Value.pointer (some ⟨pw, 0, none⟩))) rfl (by kernel_rfl) (fun w hS => by kernel_rfl) hq9_ ?_
    refine A_tk 2 (v := (Value.pointer (some ⟨pw, 4, none⟩))) rfl (by kernel_rfl) (fun w hS => by kernel_rfl) hq9_ ?_
    refine A_tk 3 (v := (Value.slice (some ⟨bb, 0, none⟩) 135168 135168)) rfl (by kernel_rfl) (fun w hS => x_load1 rfl Try.underlying43 rfl (hS.1 4 (Value.slice (some ⟨bb, 0, none⟩) 135168 135168) rfl)) hq9_ ?_
    refine A_tk 4 (v := (Value.pointer (some ⟨pw, 0, none⟩))) rfl (by kernel_rfl) (fun w hS => x_move rfl) hq9_ ?_
    refine A_tk 5 (v := (Value.pointer (some ⟨pw, 0, none⟩))) rfl (by kernel_rfl) (fun w hS => by kernel_rfl) hq9_ ?_
    refine A_tk 6 (v := (Value.pointer (some ⟨pw, 3, none⟩))) rfl (by kernel_rfl) (fun w hS => by kernel_rfl) hq9_ ?_
    refine A_tk 7 (v := (Value.int .i64 (pd.length : Int))) rfl (by kernel_rfl) (fun w hS => x_load1 rfl Try.underlying3 rfl (hS.1 3 (Value.int .i64 (pd.length : Int)) rfl)) hq9_ ?_
    refine A_tk 8 (v := (Value.slice (some ⟨bb, pd.length, none⟩) (135168 - pd.length) (135168 - pd.length))) rfl (by kernel_rfl) (fun w hS => x_slice (l := pd.length) (h := 135168) rfl Try.underlying43 z5 rfl ⟨_, _, rfl, by omega, by omega, by omega⟩ ((by rw [if_neg (by omega)]; first | rfl | simp [add_mk]))) hq9_ ?_
    refine A_tk 9 (v := p) rfl (by kernel_rfl) (fun w hS => x_move rfl) hq9_ ?_
    refine A_ready (i := 10) (rs := []) (by kernel_rfl) ?_
    refine AllR.cons ?_ AllR.nil
    refine A_op (ls' := #[true, true, true, true, true, true, true, true, true, true, true]) rfl (by kernel_rfl) (T_copy rfl rfl Try.underlying43 z5 H8_ 2 rfl hP (Holds.ro_at H8_ 0 rfl) (by omega) (by simp only [List.length_append, bytesV_len]; omega) (one_bytes _) ?_)
    intro w10_ S12_ H11_
    replace H11_ : Holds w10_ (ro R :: cl pw 255 [(Value.iface 95 (Value.pointer (some ⟨pg, 0, none⟩))), (Value.int .i64 (po : Int)), (Value.int .i64 4096), (Value.int .i64 (pd.length : Int)), (Value.slice (some ⟨bb, 0, none⟩) 135168 135168), (Value.int .i64 131072)] :: cl bb 5 (List.take pd.length (bytesV pd ++ junk) ++ (bytesV ns) ++ List.drop (pd.length + List.length (bytesV ns)) (bytesV pd ++ junk)) :: cl pg 97 [V] :: sl 5 1 V (List.length os) (bytesV os) :: F) := H11_
    have S13_ := Same.trans (Same.trans (Same.trans (Same.refl w) (Same.drew _)) (Same.drew _)) S12_
    refine ⟨⟨Holds.rd H11_ 1 rfl, Holds.rd H11_ 3 rfl, Holds.slrd H11_ 4 rfl, (Holds.ro_at H11_ 0 rfl)⟩, ?_⟩
    refine A_done (by kernel_rfl) ?_
    refine (X_then (hK7_ _ _ ?_))
    clear hK7_
    refine C_seq (fun K14_ hK14_ => ?_)
    refine C_reg ?_
    refine S_list (T_val (v := (Value.pointer (some ⟨pw, 0, none⟩))) (x_move rfl) ?_)
    refine S_list (T_val (v := (Value.pointer (some ⟨pw, 0, none⟩))) (by kernel_rfl) ?_)
    refine S_list (T_val (v := (Value.pointer (some ⟨pw, 3, none⟩))) (by kernel_rfl) ?_)
    refine S_list (T_val (v := (Value.int .i64 (pd.length : Int))) (x_load1 rfl Try.underlying3 rfl ((Holds.rd H11_ 1 rfl) 3 (Value.int .i64 (pd.length : Int)) rfl)) ?_)
    refine S_list (T_val (v := p) (x_move rfl) ?_)
    refine S_list (T_val (v := (Value.int .i64 (ns.length : Int))) (x_lenRS rfl hP Try.underlying43) ?_)
    refine S_list (T_val (v := (Value.int .i64 ((pd.length : Int) + (ns.length : Int)))) (x_bin rfl rfl (ib_add (IntWalk.i64_in _ (by omega)))) ?_)
    refine S_list (T_val (v := (Value.pointer (some ⟨pw, 0, none⟩))) (by kernel_rfl) ?_)
    refine S_list (T_val (v := (Value.pointer (some ⟨pw, 3, none⟩))) (by kernel_rfl) ?_)
    refine S_list0 (T_store1 (v := (Value.int .i64 ((pd.length : Int) + (ns.length : Int)))) rfl rfl z3 rfl H11_ 1 rfl (Nat.le_of_ble_eq_true (by rfl)) ?_)
    intro w15_ S17_ H16_
    replace H16_ : Holds w15_ (ro R :: cl pw 255 [(Value.iface 95 (Value.pointer (some ⟨pg, 0, none⟩))), (Value.int .i64 (po : Int)), (Value.int .i64 4096), (Value.int .i64 ((pd.length : Int) + (ns.length : Int))), (Value.slice (some ⟨bb, 0, none⟩) 135168 135168), (Value.int .i64 131072)] :: cl bb 5 (List.take pd.length (bytesV pd ++ junk) ++ (bytesV ns) ++ List.drop (pd.length + List.length (bytesV ns)) (bytesV pd ++ junk)) :: cl pg 97 [V] :: sl 5 1 V (List.length os) (bytesV os) :: F) := H16_
    have S18_ := Same.trans S13_ S17_
    refine wpList_nil ?_
    refine (X_then (hK14_ _ _ ?_))
    clear hK14_
    refine C_seq (fun K19_ hK19_ => ?_)
    refine C_reg ?_
    refine S_list (T_val (v := p) (x_move rfl) ?_)
    refine S_list (T_val (v := (Value.int .i64 (ns.length : Int))) (x_lenRS rfl hP Try.underlying43) ?_)
    refine S_list (T_val (v := (Value.int .i64 (ns.length : Int))) (x_assign rfl) ?_)
    refine S_list (T_val (v := (Value.nilIface)) (x_assign rfl) ?_)
    refine wpList_nil ?_
    refine (X_then (hK19_ _ _ ?_))
    clear hK19_
    refine C_ret (X_thenR ?_)
    refine R_any (v := (Value.tuple #[(Value.int .i64 (ns.length : Int)), (Value.nilIface)])) (run_results2 rfl rfl rfl) ?_
    have H20_ : Holds w15_ (ro R :: cl pw 255 [(Value.iface 95 (Value.pointer (some ⟨pg, 0, none⟩))), (Value.int .i64 (po : Int)), (Value.int .i64 4096), (Value.int .i64 ((pd.length : Int) + (ns.length : Int))), (Value.slice (some ⟨bb, 0, none⟩) 135168 135168), (Value.int .i64 131072)] :: cl bb 5 (bytesV (pd ++ ns) ++ List.drop ns.length junk) :: cl pg 97 [V] :: sl 5 1 V (List.length os) (bytesV os) :: F) := cast1 (P := fun (c__ : List Value) => Holds w15_ (ro R :: cl pw 255 [(Value.iface 95 (Value.pointer (some ⟨pg, 0, none⟩))), (Value.int .i64 (po : Int)), (Value.int .i64 4096), (Value.int .i64 ((pd.length : Int) + (ns.length : Int))), (Value.slice (some ⟨bb, 0, none⟩) 135168 135168), (Value.int .i64 131072)] :: cl bb 5 c__ :: cl pg 97 [V] :: sl 5 1 V (List.length os) (bytesV os) :: F)) (buf_put pd ns junk : List.take pd.length (bytesV pd ++ junk) ++ (bytesV ns) ++ List.drop (pd.length + List.length (bytesV ns)) (bytesV pd ++ junk) = bytesV (pd ++ ns) ++ List.drop ns.length junk) H16_
    have H21_ : Holds w15_ (ro R :: cl pw 255 [(Value.iface 95 (Value.pointer (some ⟨pg, 0, none⟩))), (Value.int .i64 (po : Int)), (Value.int .i64 4096), (Value.int .i64 ((pd ++ ns).length : Int)), (Value.slice (some ⟨bb, 0, none⟩) 135168 135168), (Value.int .i64 131072)] :: cl bb 5 (bytesV (pd ++ ns) ++ List.drop ns.length junk) :: cl pg 97 [V] :: sl 5 1 V (List.length os) (bytesV os) :: F) := cast1 (P := fun (c__ : List Value) => Holds w15_ (ro R :: cl pw 255 c__ :: cl bb 5 (bytesV (pd ++ ns) ++ List.drop ns.length junk) :: cl pg 97 [V] :: sl 5 1 V (List.length os) (bytesV os) :: F)) ((lcons rfl (lcons rfl (lcons rfl (lcons (congrArg (Value.int .i64) ((by rw [List.length_append]; omega) : (pd.length : Int) + (ns.length : Int) = ((pd ++ ns).length : Int))) rfl)))) : [(Value.iface 95 (Value.pointer (some ⟨pg, 0, none⟩))), (Value.int .i64 (po : Int)), (Value.int .i64 4096), (Value.int .i64 ((pd.length : Int) + (ns.length : Int))), (Value.slice (some ⟨bb, 0, none⟩) 135168 135168), (Value.int .i64 131072)] = [(Value.iface 95 (Value.pointer (some ⟨pg, 0, none⟩))), (Value.int .i64 (po : Int)), (Value.int .i64 4096), (Value.int .i64 ((pd ++ ns).length : Int)), (Value.slice (some ⟨bb, 0, none⟩) 135168 135168), (Value.int .i64 131072)]) H20_
    have H22_ : Holds w15_ (ro R :: cl pw 255 [(Value.iface 95 (Value.pointer (some ⟨pg, 0, none⟩))), (Value.int .i64 (po : Int)), (Value.int .i64 4096), (Value.int .i64 ((pd ++ ns).length : Int)), (Value.slice (some ⟨bb, 0, none⟩) 135168 135168), (Value.int .i64 131072)] :: cl bb 5 (bytesV (pd ++ ns) ++ (List.drop ns.length junk)) :: cl pg 97 [V] :: sl 5 1 V (List.length os) (bytesV os) :: F) := cast1 (P := fun (c__ : List Value) => Holds w15_ (ro R :: cl pw 255 [(Value.iface 95 (Value.pointer (some ⟨pg, 0, none⟩))), (Value.int .i64 (po : Int)), (Value.int .i64 4096), (Value.int .i64 ((pd ++ ns).length : Int)), (Value.slice (some ⟨bb, 0, none⟩) 135168 135168), (Value.int .i64 131072)] :: cl bb 5 c__ :: cl pg 97 [V] :: sl 5 1 V (List.length os) (bytesV os) :: F)) (rfl : bytesV (pd ++ ns) ++ List.drop ns.length junk = bytesV (pd ++ ns) ++ (List.drop ns.length junk)) H21_
    exact ⟨_, [cl pw 255 [(Value.iface 95 (Value.pointer (some ⟨pg, 0, none⟩))), (Value.int .i64 (po : Int)), (Value.int .i64 4096), (Value.int .i64 ((pd ++ ns).length : Int)), (Value.slice (some ⟨bb, 0, none⟩) 135168 135168), (Value.int .i64 131072)], cl bb 5 (bytesV (pd ++ ns) ++ (List.drop ns.length junk)), cl pg 97 [V], sl 5 1 V (List.length os) (bytesV os)], rfl, ⟨(List.drop ns.length junk), rfl, rfl, (by rw [List.length_append, List.length_drop]; omega)⟩, S18_, H22_⟩
  · have c6_fp : ¬ ((ns.length : Int) + (pd.length : Int) ≤ 131072) := of_decide_eq_false c6_f
    omega

set_option maxHeartbeats 1000000 in
theorem wWrite (R : HP) (pw bb pg po : Nat) (pd : List Int) (junk : List Value) (V : Value) (os : List Int) (p : Value) (ns : List Int) (hP : RS R 1 p ns.length (bytesV ns)) (q1 : po ≤ 2097152) (hj : pd.length + junk.length = 135168) (q3 : os.length + pd.length ≤ 80000000) (q4 : ns.length ≤ 1000000) (hinv : pd.length + (4096 - (po + pd.length) % 4096) ≤ 135168) :
    Tri Try.prog 166 #[(Value.pointer (some ⟨pw, 0, none⟩)), p] R [cl pw 255 [(Value.iface 95 (Value.pointer (some ⟨pg, 0, none⟩))), (Value.int .i64 (po : Int)), (Value.int .i64 4096), (Value.int .i64 (pd.length : Int)), (Value.slice (some ⟨bb, 0, none⟩) 135168 135168), (Value.int .i64 131072)], cl bb 5 (bytesV pd ++ junk), cl pg 97 [V], sl 5 1 V (List.length os) (bytesV os)] (fun v__ post__ => ∃ (nn : Int) (po' : Nat) (pd' : List Int) (junk' : List Value) (V' : Value) (os' : List Int), v__ = (Value.tuple #[(Value.int .i64 nn), (Value.nilIface)]) ∧ post__ = [cl pw 255 [(Value.iface 95 (Value.pointer (some ⟨pg, 0, none⟩))), (Value.int .i64 (po' : Int)), (Value.int .i64 4096), (Value.int .i64 (pd'.length : Int)), (Value.slice (some ⟨bb, 0, none⟩) 135168 135168), (Value.int .i64 131072)], cl bb 5 (bytesV pd' ++ junk'), cl pg 97 [V'], sl 5 1 V' (List.length os') (bytesV os')] ∧ (po' ≤ 2097152) ∧ (pd'.length + junk'.length = 135168) ∧ (os' ++ pd' = os ++ pd ++ ns) ∧ (pd'.length + (4096 - (po' + pd'.length) % 4096) ≤ 135168)) := by
  obtain ⟨r, hr⟩ : ∃ r, (po + pd.length) % 4096 = r := ⟨_, rfl⟩
  have hr2 : r < 4096 := hr ▸ Nat.mod_lt _ (by omega)
  obtain ⟨sk, hsk⟩ : ∃ s, 4096 - r = s := ⟨_, rfl⟩
  rw [hr] at hinv
  refine Tri.into (n := 170) (al := [(Value.pointer (some ⟨pw, 0, none⟩)), p]) Try.func166 rfl Try.ntmps166 rfl rfl fun w F H => ?_
  replace H : Holds w (ro R :: cl pw 255 [(Value.iface 95 (Value.pointer (some ⟨pg, 0, none⟩))), (Value.int .i64 (po : Int)), (Value.int .i64 4096), (Value.int .i64 (pd.length : Int)), (Value.slice (some ⟨bb, 0, none⟩) 135168 135168), (Value.int .i64 131072)] :: cl bb 5 (bytesV pd ++ junk) :: cl pg 97 [V] :: sl 5 1 V (List.length os) (bytesV os) :: F) := H
  refine C_seq (fun K1_ hK1_ => ?_)
  refine C_reg ?_
  refine S_list (T_val (v := (Value.int .i64 0)) (x_assign rfl) ?_)
  refine S_list (T_val (v := (Value.nilIface)) (x_assign rfl) ?_)
  refine wpList_nil ?_
  refine (X_then (hK1_ _ _ ?_))
  clear hK1_
  refine C_seq (fun K2_ hK2_ => ?_)
  refine C_seq (fun K3_ hK3_ => ?_)
  refine A_start (S := fun w => Rd pw [(Value.iface 95 (Value.pointer (some ⟨pg, 0, none⟩))), (Value.int .i64 (po : Int)), (Value.int .i64 4096), (Value.int .i64 (pd.length : Int)), (Value.slice (some ⟨bb, 0, none⟩) 135168 135168), (Value.int .i64 131072)] w ∧ Rd pg [V] w ∧ SlRd V (bytesV os) w ∧ Sub R (hp w)) (N := 12) foll rfl rfl ?_
  have H4_ : Holds w.drew (ro R :: cl pw 255 [(Value.iface 95 (Value.pointer (some ⟨pg, 0, none⟩))), (Value.int .i64 (po : Int)), (Value.int .i64 4096), (Value.int .i64 (pd.length : Int)), (Value.slice (some ⟨bb, 0, none⟩) 135168 135168), (Value.int .i64 131072)] :: cl bb 5 (bytesV pd ++ junk) :: cl pg 97 [V] :: sl 5 1 V (List.length os) (bytesV os) :: F) := H
  have hq5_ := And.intro (Holds.rd H4_ 1 rfl) (And.intro (Holds.rd H4_ 3 rfl) (And.intro (Holds.slrd H4_ 4 rfl) ((Holds.ro_at H4_ 0 rfl))))
  refine A_tk 0 (v := p) rfl (by kernel_rfl) (fun w hS => x_move rfl) hq5_ ?_
  refine A_tk 1 (v := (Value.int .i64 (ns.length : Int))) rfl (by kernel_rfl) (fun w hS => x_lenRS rfl hP Try.underlying43) hq5_ ?_
  refine A_tk 2 (v := (Value.pointer (some ⟨pw, 0, none⟩))) rfl (by kernel_rfl) (fun w hS => x_move rfl) hq5_ ?_
  refine A_tk 3 (v := (Value.pointer (some ⟨pw, 0, none⟩))) rfl (by kernel_rfl) (fun w hS => by kernel_rfl) hq5_ ?_
  refine A_tk 4 (v := (Value.pointer (some ⟨pw, 3, none⟩))) rfl (by kernel_rfl) (fun w hS => by kernel_rfl) hq5_ ?_
  refine A_tk 5 (v := (Value.int .i64 (pd.length : Int))) rfl (by kernel_rfl) (fun w hS => x_load1 rfl Try.underlying3 rfl (hS.1 3 (Value.int .i64 (pd.length : Int)) rfl)) hq5_ ?_
  refine A_tk 6 (v := (Value.int .i64 ((ns.length : Int) + (pd.length : Int)))) rfl (by kernel_rfl) (fun w hS => x_bin rfl rfl (ib_add (IntWalk.i64_in _ (by omega)))) hq5_ ?_
  refine A_tk 7 (v := (Value.pointer (some ⟨pw, 0, none⟩))) rfl (by kernel_rfl) (fun w hS => x_move rfl) hq5_ ?_
  refine A_tk 8 (v := (Value.pointer (some ⟨pw, 0, none⟩))) rfl (by kernel_rfl) (fun w hS => by kernel_rfl) hq5_ ?_
  refine A_tk 9 (v := (Value.pointer (some ⟨pw, 5, none⟩))) rfl (by kernel_rfl) (fun w hS => by kernel_rfl) hq5_ ?_
  refine A_tk 10 (v := (Value.int .i64 131072)) rfl (by kernel_rfl) (fun w hS => x_load1 rfl Try.underlying3 rfl (hS.1 5 (Value.int .i64 131072) rfl)) hq5_ ?_
  refine A_tk 11 (v := (Value.bool (decide ((ns.length : Int) + (pd.length : Int) ≤ 131072)))) rfl (by kernel_rfl) (fun w hS => x_bin rfl rfl rfl) hq5_ ?_
  refine A_done (by kernel_rfl) ?_
  refine (X_then (hK3_ _ _ ?_))
  clear hK3_
  refine C_cond (b := decide ((ns.length : Int) + (pd.length : Int) ≤ 131072)) rfl (fun c6_t => ?_) (fun c6_f => ?_)
  · have c6_tp : (ns.length : Int) + (pd.length : Int) ≤ 131072 := of_decide_eq_true c6_t
    refine C_seq (fun K7_ hK7_ => ?_)
    refine A_start (S := fun w => Rd pw [(Value.iface 95 (Value.pointer (some ⟨pg, 0, none⟩))), (Value.int .i64 (po : Int)), (Value.int .i64 4096), (Value.int .i64 (pd.length : Int)), (Value.slice (some ⟨bb, 0, none⟩) 135168 135168), (Value.int .i64 131072)] w ∧ Rd pg [V] w ∧ SlRd V (bytesV os) w ∧ Sub R (hp w)) (N := 11) foll rfl rfl ?_
    have H8_ : Holds w.drew.drew (ro R :: cl pw 255 [(Value.iface 95 (Value.pointer (some ⟨pg, 0, none⟩))), (Value.int .i64 (po : Int)), (Value.int .i64 4096), (Value.int .i64 (pd.length : Int)), (Value.slice (some ⟨bb, 0, none⟩) 135168 135168), (Value.int .i64 131072)] :: cl bb 5 (bytesV pd ++ junk) :: cl pg 97 [V] :: sl 5 1 V (List.length os) (bytesV os) :: F) := H4_
    have hq9_ := And.intro (Holds.rd H8_ 1 rfl) (And.intro (Holds.rd H8_ 3 rfl) (And.intro (Holds.slrd H8_ 4 rfl) ((Holds.ro_at H8_ 0 rfl))))
    refine A_tk 0 (v := (Value.pointer (some ⟨pw, 0, none⟩))) rfl (by kernel_rfl) (fun w hS => x_move rfl) hq9_ ?_
    refine A_tk 1 (v := (Value.pointer (some ⟨pw, 0, none⟩))) rfl (by kernel_rfl) (fun w hS => by kernel_rfl) hq9_ ?_
    refine A_tk 2 (v := (Value.pointer (some ⟨pw, 4, none⟩))) rfl (by kernel_rfl) (fun w hS => by kernel_rfl) hq9_ ?_
    refine A_tk 3 (v := (Value.slice (some ⟨bb, 0, none⟩) 135168 135168)) rfl (by kernel_rfl) (fun w hS => x_load1 rfl Try.underlying43 rfl (hS.1 4 (Value.slice (some ⟨bb, 0, none⟩) 135168 135168) rfl)) hq9_ ?_
    refine A_tk 4 (v := (Value.pointer (some ⟨pw, 0, none⟩))) rfl (by kernel_rfl) (fun w hS => x_move rfl) hq9_ ?_
    refine A_tk 5 (v := (Value.pointer (some ⟨pw, 0, none⟩))) rfl (by kernel_rfl) (fun w hS => by kernel_rfl) hq9_ ?_
    refine A_tk 6 (v := (Value.pointer (some ⟨pw, 3, none⟩))) rfl (by kernel_rfl) (fun w hS => by kernel_rfl) hq9_ ?_
    refine A_tk 7 (v := (Value.int .i64 (pd.length : Int))) rfl (by kernel_rfl) (fun w hS => x_load1 rfl Try.underlying3 rfl (hS.1 3 (Value.int .i64 (pd.length : Int)) rfl)) hq9_ ?_
    refine A_tk 8 (v := (Value.slice (some ⟨bb, pd.length, none⟩) (135168 - pd.length) (135168 - pd.length))) rfl (by kernel_rfl) (fun w hS => x_slice (l := pd.length) (h := 135168) rfl Try.underlying43 z5 rfl ⟨_, _, rfl, by omega, by omega, by omega⟩ ((by rw [if_neg (by omega)]; first | rfl | simp [add_mk]))) hq9_ ?_
    refine A_tk 9 (v := p) rfl (by kernel_rfl) (fun w hS => x_move rfl) hq9_ ?_
    refine A_ready (i := 10) (rs := []) (by kernel_rfl) ?_
    refine AllR.cons ?_ AllR.nil
    refine A_op (ls' := #[true, true, true, true, true, true, true, true, true, true, true]) rfl (by kernel_rfl) (T_copy rfl rfl Try.underlying43 z5 H8_ 2 rfl hP (Holds.ro_at H8_ 0 rfl) (by omega) (by simp only [List.length_append, bytesV_len]; omega) (one_bytes _) ?_)
    intro w10_ S12_ H11_
    replace H11_ : Holds w10_ (ro R :: cl pw 255 [(Value.iface 95 (Value.pointer (some ⟨pg, 0, none⟩))), (Value.int .i64 (po : Int)), (Value.int .i64 4096), (Value.int .i64 (pd.length : Int)), (Value.slice (some ⟨bb, 0, none⟩) 135168 135168), (Value.int .i64 131072)] :: cl bb 5 (List.take pd.length (bytesV pd ++ junk) ++ (bytesV ns) ++ List.drop (pd.length + List.length (bytesV ns)) (bytesV pd ++ junk)) :: cl pg 97 [V] :: sl 5 1 V (List.length os) (bytesV os) :: F) := H11_
    have S13_ := Same.trans (Same.trans (Same.trans (Same.refl w) (Same.drew _)) (Same.drew _)) S12_
    refine ⟨⟨Holds.rd H11_ 1 rfl, Holds.rd H11_ 3 rfl, Holds.slrd H11_ 4 rfl, (Holds.ro_at H11_ 0 rfl)⟩, ?_⟩
    refine A_done (by kernel_rfl) ?_
    refine (X_then (hK7_ _ _ ?_))
    clear hK7_
    refine C_seq (fun K14_ hK14_ => ?_)
    refine C_reg ?_
    refine S_list (T_val (v := (Value.pointer (some ⟨pw, 0, none⟩))) (x_move rfl) ?_)
    refine S_list (T_val (v := (Value.pointer (some ⟨pw, 0, none⟩))) (by kernel_rfl) ?_)
    refine S_list (T_val (v := (Value.pointer (some ⟨pw, 3, none⟩))) (by kernel_rfl) ?_)
    refine S_list (T_val (v := (Value.int .i64 (pd.length : Int))) (x_load1 rfl Try.underlying3 rfl ((Holds.rd H11_ 1 rfl) 3 (Value.int .i64 (pd.length : Int)) rfl)) ?_)
    refine S_list (T_val (v := p) (x_move rfl) ?_)
    refine S_list (T_val (v := (Value.int .i64 (ns.length : Int))) (x_lenRS rfl hP Try.underlying43) ?_)
    refine S_list (T_val (v := (Value.int .i64 ((pd.length : Int) + (ns.length : Int)))) (x_bin rfl rfl (ib_add (IntWalk.i64_in _ (by omega)))) ?_)
    refine S_list (T_val (v := (Value.pointer (some ⟨pw, 0, none⟩))) (by kernel_rfl) ?_)
    refine S_list (T_val (v := (Value.pointer (some ⟨pw, 3, none⟩))) (by kernel_rfl) ?_)
    refine S_list0 (T_store1 (v := (Value.int .i64 ((pd.length : Int) + (ns.length : Int)))) rfl rfl z3 rfl H11_ 1 rfl (Nat.le_of_ble_eq_true (by rfl)) ?_)
    intro w15_ S17_ H16_
    replace H16_ : Holds w15_ (ro R :: cl pw 255 [(Value.iface 95 (Value.pointer (some ⟨pg, 0, none⟩))), (Value.int .i64 (po : Int)), (Value.int .i64 4096), (Value.int .i64 ((pd.length : Int) + (ns.length : Int))), (Value.slice (some ⟨bb, 0, none⟩) 135168 135168), (Value.int .i64 131072)] :: cl bb 5 (List.take pd.length (bytesV pd ++ junk) ++ (bytesV ns) ++ List.drop (pd.length + List.length (bytesV ns)) (bytesV pd ++ junk)) :: cl pg 97 [V] :: sl 5 1 V (List.length os) (bytesV os) :: F) := H16_
    have S18_ := Same.trans S13_ S17_
    refine wpList_nil ?_
    refine (X_then (hK14_ _ _ ?_))
    clear hK14_
    refine C_seq (fun K19_ hK19_ => ?_)
    refine C_reg ?_
    refine S_list (T_val (v := p) (x_move rfl) ?_)
    refine S_list (T_val (v := (Value.int .i64 (ns.length : Int))) (x_lenRS rfl hP Try.underlying43) ?_)
    refine S_list (T_val (v := (Value.int .i64 (ns.length : Int))) (x_assign rfl) ?_)
    refine S_list (T_val (v := (Value.nilIface)) (x_assign rfl) ?_)
    refine wpList_nil ?_
    refine (X_then (hK19_ _ _ ?_))
    clear hK19_
    refine C_ret (X_thenR ?_)
    refine R_any (v := (Value.tuple #[(Value.int .i64 (ns.length : Int)), (Value.nilIface)])) (run_results2 rfl rfl rfl) ?_
    have H20_ : Holds w15_ (ro R :: cl pw 255 [(Value.iface 95 (Value.pointer (some ⟨pg, 0, none⟩))), (Value.int .i64 (po : Int)), (Value.int .i64 4096), (Value.int .i64 ((pd.length : Int) + (ns.length : Int))), (Value.slice (some ⟨bb, 0, none⟩) 135168 135168), (Value.int .i64 131072)] :: cl bb 5 (bytesV (pd ++ (ns)) ++ List.drop (ns).length junk) :: cl pg 97 [V] :: sl 5 1 V (List.length os) (bytesV os) :: F) := cast1 (P := fun (c__ : List Value) => Holds w15_ (ro R :: cl pw 255 [(Value.iface 95 (Value.pointer (some ⟨pg, 0, none⟩))), (Value.int .i64 (po : Int)), (Value.int .i64 4096), (Value.int .i64 ((pd.length : Int) + (ns.length : Int))), (Value.slice (some ⟨bb, 0, none⟩) 135168 135168), (Value.int .i64 131072)] :: cl bb 5 c__ :: cl pg 97 [V] :: sl 5 1 V (List.length os) (bytesV os) :: F)) (buf_put pd (ns) junk : List.take pd.length (bytesV pd ++ junk) ++ (bytesV ns) ++ List.drop (pd.length + List.length (bytesV ns)) (bytesV pd ++ junk) = bytesV (pd ++ (ns)) ++ List.drop (ns).length junk) H16_
    have H21_ : Holds w15_ (ro R :: cl pw 255 [(Value.iface 95 (Value.pointer (some ⟨pg, 0, none⟩))), (Value.int .i64 (po : Int)), (Value.int .i64 4096), (Value.int .i64 ((pd ++ ns).length : Int)), (Value.slice (some ⟨bb, 0, none⟩) 135168 135168), (Value.int .i64 131072)] :: cl bb 5 (bytesV (pd ++ (ns)) ++ List.drop (ns).length junk) :: cl pg 97 [V] :: sl 5 1 V (List.length os) (bytesV os) :: F) := cast1 (P := fun (c__ : List Value) => Holds w15_ (ro R :: cl pw 255 c__ :: cl bb 5 (bytesV (pd ++ (ns)) ++ List.drop (ns).length junk) :: cl pg 97 [V] :: sl 5 1 V (List.length os) (bytesV os) :: F)) (by rw [show (pd.length : Int) + (ns.length : Int) = ((pd ++ ns).length : Int) by rw [List.length_append]; omega] : [(Value.iface 95 (Value.pointer (some ⟨pg, 0, none⟩))), (Value.int .i64 (po : Int)), (Value.int .i64 4096), (Value.int .i64 ((pd.length : Int) + (ns.length : Int))), (Value.slice (some ⟨bb, 0, none⟩) 135168 135168), (Value.int .i64 131072)] = [(Value.iface 95 (Value.pointer (some ⟨pg, 0, none⟩))), (Value.int .i64 (po : Int)), (Value.int .i64 4096), (Value.int .i64 ((pd ++ ns).length : Int)), (Value.slice (some ⟨bb, 0, none⟩) 135168 135168), (Value.int .i64 131072)]) H20_
    have H22_ : Holds w15_ (ro R :: cl pw 255 [(Value.iface 95 (Value.pointer (some ⟨pg, 0, none⟩))), (Value.int .i64 (po : Int)), (Value.int .i64 4096), (Value.int .i64 ((pd ++ ns).length : Int)), (Value.slice (some ⟨bb, 0, none⟩) 135168 135168), (Value.int .i64 131072)] :: cl bb 5 (bytesV (pd ++ ns) ++ (List.drop ns.length junk)) :: cl pg 97 [V] :: sl 5 1 V (List.length os) (bytesV os) :: F) := cast1 (P := fun (c__ : List Value) => Holds w15_ (ro R :: cl pw 255 [(Value.iface 95 (Value.pointer (some ⟨pg, 0, none⟩))), (Value.int .i64 (po : Int)), (Value.int .i64 4096), (Value.int .i64 ((pd ++ ns).length : Int)), (Value.slice (some ⟨bb, 0, none⟩) 135168 135168), (Value.int .i64 131072)] :: cl bb 5 c__ :: cl pg 97 [V] :: sl 5 1 V (List.length os) (bytesV os) :: F)) ((by first | rfl | omega | (simp; done) | (simp; omega)) : bytesV (pd ++ (ns)) ++ List.drop (ns).length junk = bytesV (pd ++ ns) ++ (List.drop ns.length junk)) H21_
    exact ⟨_, [cl pw 255 [(Value.iface 95 (Value.pointer (some ⟨pg, 0, none⟩))), (Value.int .i64 (po : Int)), (Value.int .i64 4096), (Value.int .i64 ((pd ++ ns).length : Int)), (Value.slice (some ⟨bb, 0, none⟩) 135168 135168), (Value.int .i64 131072)], cl bb 5 (bytesV (pd ++ ns) ++ (List.drop ns.length junk)), cl pg 97 [V], sl 5 1 V (List.length os) (bytesV os)], rfl, ⟨(ns.length : Int), po, pd ++ ns, List.drop ns.length junk, V, os, rfl, rfl, (by first | assumption | omega | exact rfl), (by rw [List.length_append, List.length_drop]; omega), (by rw [List.append_assoc]), (by rw [List.length_append]; omega)⟩, S18_, H22_⟩
  · have c6_fp : ¬ ((ns.length : Int) + (pd.length : Int) ≤ 131072) := of_decide_eq_false c6_f
    refine C_skip (X_then (hK2_ _ _ ?_))
    clear hK2_
    refine C_seq (fun K23_ hK23_ => ?_)
    refine A_start (S := fun w => Rd pw [(Value.iface 95 (Value.pointer (some ⟨pg, 0, none⟩))), (Value.int .i64 (po : Int)), (Value.int .i64 4096), (Value.int .i64 (pd.length : Int)), (Value.slice (some ⟨bb, 0, none⟩) 135168 135168), (Value.int .i64 131072)] w ∧ Rd pg [V] w ∧ SlRd V (bytesV os) w ∧ Sub R (hp w)) (N := 20) foll rfl rfl ?_
    have H24_ : Holds w.drew.drew (ro R :: cl pw 255 [(Value.iface 95 (Value.pointer (some ⟨pg, 0, none⟩))), (Value.int .i64 (po : Int)), (Value.int .i64 4096), (Value.int .i64 (pd.length : Int)), (Value.slice (some ⟨bb, 0, none⟩) 135168 135168), (Value.int .i64 131072)] :: cl bb 5 (bytesV pd ++ junk) :: cl pg 97 [V] :: sl 5 1 V (List.length os) (bytesV os) :: F) := H4_
    have hq25_ := And.intro (Holds.rd H24_ 1 rfl) (And.intro (Holds.rd H24_ 3 rfl) (And.intro (Holds.slrd H24_ 4 rfl) ((Holds.ro_at H24_ 0 rfl))))
    refine A_tk 0 (v := (Value.pointer (some ⟨pw, 0, none⟩))) rfl (by kernel_rfl) (fun w hS => x_move rfl) hq25_ ?_
    refine A_tk 1 (v := (Value.pointer (some ⟨pw, 0, none⟩))) rfl (by kernel_rfl) (fun w hS => by kernel_rfl) hq25_ ?_
    refine A_tk 2 (v := (Value.pointer (some ⟨pw, 2, none⟩))) rfl (by kernel_rfl) (fun w hS => by kernel_rfl) hq25_ ?_
    refine A_tk 3 (v := (Value.int .i64 4096)) rfl (by kernel_rfl) (fun w hS => x_load1 rfl Try.underlying3 rfl (hS.1 2 (Value.int .i64 4096) rfl)) hq25_ ?_
    refine A_tk 4 (v := (Value.pointer (some ⟨pw, 0, none⟩))) rfl (by kernel_rfl) (fun w hS => x_move rfl) hq25_ ?_
    refine A_tk 5 (v := (Value.pointer (some ⟨pw, 0, none⟩))) rfl (by kernel_rfl) (fun w hS => by kernel_rfl) hq25_ ?_
    refine A_tk 6 (v := (Value.pointer (some ⟨pw, 1, none⟩))) rfl (by kernel_rfl) (fun w hS => by kernel_rfl) hq25_ ?_
    refine A_tk 7 (v := (Value.int .i64 (po : Int))) rfl (by kernel_rfl) (fun w hS => x_load1 rfl Try.underlying3 rfl (hS.1 1 (Value.int .i64 (po : Int)) rfl)) hq25_ ?_
    refine A_tk 8 (v := (Value.pointer (some ⟨pw, 0, none⟩))) rfl (by kernel_rfl) (fun w hS => x_move rfl) hq25_ ?_
    refine A_tk 9 (v := (Value.pointer (some ⟨pw, 0, none⟩))) rfl (by kernel_rfl) (fun w hS => by kernel_rfl) hq25_ ?_
    refine A_tk 10 (v := (Value.pointer (some ⟨pw, 3, none⟩))) rfl (by kernel_rfl) (fun w hS => by kernel_rfl) hq25_ ?_
    refine A_tk 11 (v := (Value.int .i64 (pd.length : Int))) rfl (by kernel_rfl) (fun w hS => x_load1 rfl Try.underlying3 rfl (hS.1 3 (Value.int .i64 (pd.length : Int)) rfl)) hq25_ ?_
    refine A_tk 12 (v := (Value.int .i64 ((po : Int) + (pd.length : Int)))) rfl (by kernel_rfl) (fun w hS => x_bin rfl rfl (ib_add (IntWalk.i64_in _ (by omega)))) hq25_ ?_
    refine A_tk 13 (v := (Value.pointer (some ⟨pw, 0, none⟩))) rfl (by kernel_rfl) (fun w hS => x_move rfl) hq25_ ?_
    refine A_tk 14 (v := (Value.pointer (some ⟨pw, 0, none⟩))) rfl (by kernel_rfl) (fun w hS => by kernel_rfl) hq25_ ?_
    refine A_tk 15 (v := (Value.pointer (some ⟨pw, 2, none⟩))) rfl (by kernel_rfl) (fun w hS => by kernel_rfl) hq25_ ?_
    refine A_tk 16 (v := (Value.int .i64 4096)) rfl (by kernel_rfl) (fun w hS => x_load1 rfl Try.underlying3 rfl (hS.1 2 (Value.int .i64 4096) rfl)) hq25_ ?_
    refine A_tk 17 (v := (Value.int .i64 (r : Int))) rfl (by kernel_rfl) (fun w hS => x_bin rfl rfl (ib_remN (x := po + pd.length) (y := 4096) (r := r) (by omega) (by omega) (by omega) (by omega) hr)) hq25_ ?_
    refine A_tk 18 (v := (Value.int .i64 (sk : Int))) rfl (by kernel_rfl) (fun w hS => x_bin rfl rfl (ib_subN (x := 4096) (y := r) (r := sk) (by omega) (by omega) (by omega) (by omega) hsk)) hq25_ ?_
    refine A_tk 19 (v := (Value.int .i64 (sk : Int))) rfl (by kernel_rfl) (fun w hS => x_assign rfl) hq25_ ?_
    refine A_done (by kernel_rfl) ?_
    refine (X_then (hK23_ _ _ ?_))
    clear hK23_
    refine C_seq (fun K26_ hK26_ => ?_)
    refine C_seq (fun K27_ hK27_ => ?_)
    refine C_reg ?_
    refine S_list (T_val (v := (Value.int .i64 (sk : Int))) (x_move rfl) ?_)
    refine S_list (T_val (v := (Value.pointer (some ⟨pw, 0, none⟩))) (x_move rfl) ?_)
    refine S_list (T_val (v := (Value.pointer (some ⟨pw, 0, none⟩))) (by kernel_rfl) ?_)
    refine S_list (T_val (v := (Value.pointer (some ⟨pw, 2, none⟩))) (by kernel_rfl) ?_)
    refine S_list (T_val (v := (Value.int .i64 4096)) (x_load1 rfl Try.underlying3 rfl ((Holds.rd H24_ 1 rfl) 2 (Value.int .i64 4096) rfl)) ?_)
    refine S_list (T_val (v := (Value.bool (decide ((sk : Int) ≠ 4096)))) (x_bin rfl rfl rfl) ?_)
    refine wpList_nil ?_
    refine (X_then (hK27_ _ _ ?_))
    clear hK27_
    refine C_cond (b := decide ((sk : Int) ≠ 4096)) rfl (fun c28_t => ?_) (fun c28_f => ?_)
    · have c28_tp : (sk : Int) ≠ 4096 := of_decide_eq_true c28_t
      refine C_seq (fun K29_ hK29_ => ?_)
      refine C_reg ?_
      refine S_list (T_val (v := (Value.int .i64 (sk : Int))) (x_move rfl) ?_)
      refine S_list (T_val (v := p) (x_move rfl) ?_)
      refine S_list (T_val (v := (Value.int .i64 (ns.length : Int))) (x_lenRS rfl hP Try.underlying43) ?_)
      refine S_list (T_val (v := (Value.bool (decide ((ns.length : Int) < (sk : Int))))) (x_bin rfl rfl rfl) ?_)
      refine S_list (T_val (v := (Value.bool (decide ((ns.length : Int) < (sk : Int))))) (x_assign rfl) ?_)
      refine wpList_nil ?_
      refine (X_then (hK29_ _ _ ?_))
      clear hK29_
      refine C_seq (fun K30_ hK30_ => ?_)
      refine C_seq (fun K31_ hK31_ => ?_)
      refine C_reg ?_
      refine S_list (T_val (v := (Value.bool (decide ((ns.length : Int) < (sk : Int))))) (x_move rfl) ?_)
      refine wpList_nil ?_
      refine (X_then (hK31_ _ _ ?_))
      clear hK31_
      refine C_cond (b := decide ((ns.length : Int) < (sk : Int))) rfl (fun c32_t => ?_) (fun c32_f => ?_)
      · have c32_tp : (ns.length : Int) < (sk : Int) := of_decide_eq_true c32_t
        refine C_reg ?_
        refine S_list (T_val (v := p) (x_move rfl) ?_)
        refine S_list (T_val (v := (Value.int .i64 (ns.length : Int))) (x_lenRS rfl hP Try.underlying43) ?_)
        refine S_list (T_val (v := (Value.int .i64 (ns.length : Int))) (x_assign rfl) ?_)
        refine wpList_nil ?_
        refine (X_then (hK30_ _ _ ?_))
        clear hK30_
        refine C_seq (fun K33_ hK33_ => ?_)
        refine A_start (S := fun w => Rd pw [(Value.iface 95 (Value.pointer (some ⟨pg, 0, none⟩))), (Value.int .i64 (po : Int)), (Value.int .i64 4096), (Value.int .i64 (pd.length : Int)), (Value.slice (some ⟨bb, 0, none⟩) 135168 135168), (Value.int .i64 131072)] w ∧ Rd pg [V] w ∧ SlRd V (bytesV os) w ∧ Sub R (hp w)) (N := 13) foll rfl rfl ?_
        have H34_ : Holds w.drew.drew.drew (ro R :: cl pw 255 [(Value.iface 95 (Value.pointer (some ⟨pg, 0, none⟩))), (Value.int .i64 (po : Int)), (Value.int .i64 4096), (Value.int .i64 (pd.length : Int)), (Value.slice (some ⟨bb, 0, none⟩) 135168 135168), (Value.int .i64 131072)] :: cl bb 5 (bytesV pd ++ junk) :: cl pg 97 [V] :: sl 5 1 V (List.length os) (bytesV os) :: F) := H24_
        have hq35_ := And.intro (Holds.rd H34_ 1 rfl) (And.intro (Holds.rd H34_ 3 rfl) (And.intro (Holds.slrd H34_ 4 rfl) ((Holds.ro_at H34_ 0 rfl))))
        refine A_tk 0 (v := (Value.pointer (some ⟨pw, 0, none⟩))) rfl (by kernel_rfl) (fun w hS => x_move rfl) hq35_ ?_
        refine A_tk 1 (v := (Value.pointer (some ⟨pw, 0, none⟩))) rfl (by kernel_rfl) (fun w hS => by kernel_rfl) hq35_ ?_
        refine A_tk 2 (v := (Value.pointer (some ⟨pw, 4, none⟩))) rfl (by kernel_rfl) (fun w hS => by kernel_rfl) hq35_ ?_
        refine A_tk 3 (v := (Value.slice (some ⟨bb, 0, none⟩) 135168 135168)) rfl (by kernel_rfl) (fun w hS => x_load1 rfl Try.underlying43 rfl (hS.1 4 (Value.slice (some ⟨bb, 0, none⟩) 135168 135168) rfl)) hq35_ ?_
        refine A_tk 4 (v := (Value.pointer (some ⟨pw, 0, none⟩))) rfl (by kernel_rfl) (fun w hS => x_move rfl) hq35_ ?_
        refine A_tk 5 (v := (Value.pointer (some ⟨pw, 0, none⟩))) rfl (by kernel_rfl) (fun w hS => by kernel_rfl) hq35_ ?_
        refine A_tk 6 (v := (Value.pointer (some ⟨pw, 3, none⟩))) rfl (by kernel_rfl) (fun w hS => by kernel_rfl) hq35_ ?_
        refine A_tk 7 (v := (Value.int .i64 (pd.length : Int))) rfl (by kernel_rfl) (fun w hS => x_load1 rfl Try.underlying3 rfl (hS.1 3 (Value.int .i64 (pd.length : Int)) rfl)) hq35_ ?_
        refine A_tk 8 (v := (Value.slice (some ⟨bb, pd.length, none⟩) (135168 - pd.length) (135168 - pd.length))) rfl (by kernel_rfl) (fun w hS => x_slice (l := pd.length) (h := 135168) rfl Try.underlying43 z5 rfl ⟨_, _, rfl, by omega, by omega, by omega⟩ ((by rw [if_neg (by omega)]; first | rfl | simp [add_mk]))) hq35_ ?_
        refine A_tk 9 (v := p) rfl (by kernel_rfl) (fun w hS => x_move rfl) hq35_ ?_
        refine A_tk 10 (v := (Value.int .i64 (ns.length : Int))) rfl (by kernel_rfl) (fun w hS => x_move rfl) hq35_ ?_
        refine A_tk 11 (v := (slc p 0 ns.length 1)) rfl (by kernel_rfl) (fun w hS => x_sliceRS (l := 0) (h := ns.length) rfl hP Try.underlying43 z5 (by omega) ⟨_, _, rfl, by omega, by omega, by omega⟩ rfl) hq35_ ?_
        refine A_ready (i := 12) (rs := []) (by kernel_rfl) ?_
        refine AllR.cons ?_ AllR.nil
        refine A_op (ls' := #[true, true, true, true, true, true, true, true, true, true, true, true, true]) rfl (by kernel_rfl) (T_copy rfl rfl Try.underlying43 z5 H34_ 2 rfl (RS.slcB hP (by omega : 0 ≤ ns.length) (by omega : ns.length ≤ ns.length)) (Holds.ro_at H34_ 0 rfl) (by omega) (by simp only [List.length_append, bytesV_len]; omega) (one_bytes _) ?_)
        intro w36_ S38_ H37_
        replace H37_ : Holds w36_ (ro R :: cl pw 255 [(Value.iface 95 (Value.pointer (some ⟨pg, 0, none⟩))), (Value.int .i64 (po : Int)), (Value.int .i64 4096), (Value.int .i64 (pd.length : Int)), (Value.slice (some ⟨bb, 0, none⟩) 135168 135168), (Value.int .i64 131072)] :: cl bb 5 (List.take pd.length (bytesV pd ++ junk) ++ (bytesV ((List.drop 0 ns).take (ns.length - 0))) ++ List.drop (pd.length + List.length (bytesV ((List.drop 0 ns).take (ns.length - 0)))) (bytesV pd ++ junk)) :: cl pg 97 [V] :: sl 5 1 V (List.length os) (bytesV os) :: F) := H37_
        have S39_ := Same.trans (Same.trans (Same.trans (Same.trans (Same.refl w) (Same.drew _)) (Same.drew _)) (Same.drew _)) S38_
        refine ⟨⟨Holds.rd H37_ 1 rfl, Holds.rd H37_ 3 rfl, Holds.slrd H37_ 4 rfl, (Holds.ro_at H37_ 0 rfl)⟩, ?_⟩
        refine A_done (by kernel_rfl) ?_
        refine (X_then (hK33_ _ _ ?_))
        clear hK33_
        refine C_seq (fun K40_ hK40_ => ?_)
        refine C_reg ?_
        refine S_list (T_val (v := (Value.pointer (some ⟨pw, 0, none⟩))) (x_move rfl) ?_)
        refine S_list (T_val (v := (Value.pointer (some ⟨pw, 0, none⟩))) (by kernel_rfl) ?_)
        refine S_list (T_val (v := (Value.pointer (some ⟨pw, 3, none⟩))) (by kernel_rfl) ?_)
        refine S_list (T_val (v := (Value.int .i64 (pd.length : Int))) (x_load1 rfl Try.underlying3 rfl ((Holds.rd H37_ 1 rfl) 3 (Value.int .i64 (pd.length : Int)) rfl)) ?_)
        refine S_list (T_val (v := (Value.int .i64 (ns.length : Int))) (x_move rfl) ?_)
        refine S_list (T_val (v := (Value.int .i64 ((pd.length : Int) + (ns.length : Int)))) (x_bin rfl rfl (ib_add (IntWalk.i64_in _ (by omega)))) ?_)
        refine S_list (T_val (v := (Value.pointer (some ⟨pw, 0, none⟩))) (by kernel_rfl) ?_)
        refine S_list (T_val (v := (Value.pointer (some ⟨pw, 3, none⟩))) (by kernel_rfl) ?_)
        refine S_list0 (T_store1 (v := (Value.int .i64 ((pd.length : Int) + (ns.length : Int)))) rfl rfl z3 rfl H37_ 1 rfl (Nat.le_of_ble_eq_true (by rfl)) ?_)
        intro w41_ S43_ H42_
        replace H42_ : Holds w41_ (ro R :: cl pw 255 [(Value.iface 95 (Value.pointer (some ⟨pg, 0, none⟩))), (Value.int .i64 (po : Int)), (Value.int .i64 4096), (Value.int .i64 ((pd.length : Int) + (ns.length : Int))), (Value.slice (some ⟨bb, 0, none⟩) 135168 135168), (Value.int .i64 131072)] :: cl bb 5 (List.take pd.length (bytesV pd ++ junk) ++ (bytesV ((List.drop 0 ns).take (ns.length - 0))) ++ List.drop (pd.length + List.length (bytesV ((List.drop 0 ns).take (ns.length - 0)))) (bytesV pd ++ junk)) :: cl pg 97 [V] :: sl 5 1 V (List.length os) (bytesV os) :: F) := H42_
        have S44_ := Same.trans S39_ S43_
        refine wpList_nil ?_
        refine (X_then (hK40_ _ _ ?_))
        clear hK40_
        refine C_seq (fun K45_ hK45_ => ?_)
        refine C_reg ?_
        refine S_list (T_val (v := (Value.int .i64 (ns.length : Int))) (x_move rfl) ?_)
        refine S_list (T_val (v := (Value.int .i64 (ns.length : Int))) (x_assign rfl) ?_)
        refine wpList_nil ?_
        refine (X_then (hK45_ _ _ ?_))
        clear hK45_
        refine C_seq (fun K46_ hK46_ => ?_)
        refine C_reg ?_
        refine S_list (T_val (v := p) (x_move rfl) ?_)
        refine S_list (T_val (v := (Value.int .i64 (ns.length : Int))) (x_move rfl) ?_)
        refine S_list (T_val (v := (slc p ns.length ns.length 1)) (x_sliceRS (l := ns.length) (h := ns.length) rfl hP Try.underlying43 z5 (by omega) rfl ⟨_, _, rfl, by omega, by omega, by omega⟩) ?_)
        refine S_list (T_val (v := (slc p ns.length ns.length 1)) (x_assign rfl) ?_)
        refine wpList_nil ?_
        refine (X_then (hK46_ _ _ ?_))
        clear hK46_
        refine C_seq (fun K47_ hK47_ => ?_)
        refine C_reg ?_
        refine S_list (T_val (v := (Value.bool (decide ((ns.length : Int) < (sk : Int))))) (x_move rfl) ?_)
        refine wpList_nil ?_
        refine (X_then (hK47_ _ _ ?_))
        clear hK47_
        refine C_condT (congrArg Value.bool c32_t) ?_
        refine C_seq (fun K48_ hK48_ => ?_)
        refine C_reg ?_
        refine S_list (T_val (v := (Value.int .i64 (ns.length : Int))) (x_move rfl) ?_)
        refine S_list (T_val (v := (Value.int .i64 (ns.length : Int))) (x_assign rfl) ?_)
        refine S_list (T_val (v := (Value.nilIface)) (x_assign rfl) ?_)
        refine wpList_nil ?_
        refine (X_then (hK48_ _ _ ?_))
        clear hK48_
        refine C_ret (X_thenR ?_)
        refine R_any (v := (Value.tuple #[(Value.int .i64 (ns.length : Int)), (Value.nilIface)])) (run_results2 rfl rfl rfl) ?_
        have H49_ : Holds w41_ (ro R :: cl pw 255 [(Value.iface 95 (Value.pointer (some ⟨pg, 0, none⟩))), (Value.int .i64 (po : Int)), (Value.int .i64 4096), (Value.int .i64 ((pd.length : Int) + (ns.length : Int))), (Value.slice (some ⟨bb, 0, none⟩) 135168 135168), (Value.int .i64 131072)] :: cl bb 5 (bytesV (pd ++ ((List.drop 0 ns).take (ns.length - 0))) ++ List.drop ((List.drop 0 ns).take (ns.length - 0)).length junk) :: cl pg 97 [V] :: sl 5 1 V (List.length os) (bytesV os) :: F) := cast1 (P := fun (c__ : List Value) => Holds w41_ (ro R :: cl pw 255 [(Value.iface 95 (Value.pointer (some ⟨pg, 0, none⟩))), (Value.int .i64 (po : Int)), (Value.int .i64 4096), (Value.int .i64 ((pd.length : Int) + (ns.length : Int))), (Value.slice (some ⟨bb, 0, none⟩) 135168 135168), (Value.int .i64 131072)] :: cl bb 5 c__ :: cl pg 97 [V] :: sl 5 1 V (List.length os) (bytesV os) :: F)) (buf_put pd ((List.drop 0 ns).take (ns.length - 0)) junk : List.take pd.length (bytesV pd ++ junk) ++ (bytesV ((List.drop 0 ns).take (ns.length - 0))) ++ List.drop (pd.length + List.length (bytesV ((List.drop 0 ns).take (ns.length - 0)))) (bytesV pd ++ junk) = bytesV (pd ++ ((List.drop 0 ns).take (ns.length - 0))) ++ List.drop ((List.drop 0 ns).take (ns.length - 0)).length junk) H42_
        have H50_ : Holds w41_ (ro R :: cl pw 255 [(Value.iface 95 (Value.pointer (some ⟨pg, 0, none⟩))), (Value.int .i64 (po : Int)), (Value.int .i64 4096), (Value.int .i64 ((pd.length : Int) + (ns.length : Int))), (Value.slice (some ⟨bb, 0, none⟩) 135168 135168), (Value.int .i64 131072)] :: cl bb 5 (bytesV (pd ++ ns) ++ List.drop ns.length junk) :: cl pg 97 [V] :: sl 5 1 V (List.length os) (bytesV os) :: F) := cast1 (P := fun (c__ : List Value) => Holds w41_ (ro R :: cl pw 255 [(Value.iface 95 (Value.pointer (some ⟨pg, 0, none⟩))), (Value.int .i64 (po : Int)), (Value.int .i64 4096), (Value.int .i64 ((pd.length : Int) + (ns.length : Int))), (Value.slice (some ⟨bb, 0, none⟩) 135168 135168), (Value.int .i64 131072)] :: cl bb 5 c__ :: cl pg 97 [V] :: sl 5 1 V (List.length os) (bytesV os) :: F)) (by rw [show (List.drop 0 ns).take (ns.length - 0) = ns by rw [List.drop_zero, Nat.sub_zero, List.take_length]] : bytesV (pd ++ ((List.drop 0 ns).take (ns.length - 0))) ++ List.drop ((List.drop 0 ns).take (ns.length - 0)).length junk = bytesV (pd ++ ns) ++ List.drop ns.length junk) H49_
        have H51_ : Holds w41_ (ro R :: cl pw 255 [(Value.iface 95 (Value.pointer (some ⟨pg, 0, none⟩))), (Value.int .i64 (po : Int)), (Value.int .i64 4096), (Value.int .i64 ((pd ++ ns).length : Int)), (Value.slice (some ⟨bb, 0, none⟩) 135168 135168), (Value.int .i64 131072)] :: cl bb 5 (bytesV (pd ++ ns) ++ List.drop ns.length junk) :: cl pg 97 [V] :: sl 5 1 V (List.length os) (bytesV os) :: F) := cast1 (P := fun (c__ : List Value) => Holds w41_ (ro R :: cl pw 255 c__ :: cl bb 5 (bytesV (pd ++ ns) ++ List.drop ns.length junk) :: cl pg 97 [V] :: sl 5 1 V (List.length os) (bytesV os) :: F)) (by rw [show (pd.length : Int) + (ns.length : Int) = ((pd ++ ns).length : Int) by rw [List.length_append]; omega] : [(Value.iface 95 (Value.pointer (some ⟨pg, 0, none⟩))), (Value.int .i64 (po : Int)), (Value.int .i64 4096), (Value.int .i64 ((pd.length : Int) + (ns.length : Int))), (Value.slice (some ⟨bb, 0, none⟩) 135168 135168), (Value.int .i64 131072)] = [(Value.iface 95 (Value.pointer (some ⟨pg, 0, none⟩))), (Value.int .i64 (po : Int)), (Value.int .i64 4096), (Value.int .i64 ((pd ++ ns).length : Int)), (Value.slice (some ⟨bb, 0, none⟩) 135168 135168), (Value.int .i64 131072)]) H50_
        have H52_ : Holds w41_ (ro R :: cl pw 255 [(Value.iface 95 (Value.pointer (some ⟨pg, 0, none⟩))), (Value.int .i64 (po : Int)), (Value.int .i64 4096), (Value.int .i64 ((pd ++ ns).length : Int)), (Value.slice (some ⟨bb, 0, none⟩) 135168 135168), (Value.int .i64 131072)] :: cl bb 5 (bytesV (pd ++ ns) ++ (List.drop ns.length junk)) :: cl pg 97 [V] :: sl 5 1 V (List.length os) (bytesV os) :: F) := cast1 (P := fun (c__ : List Value) => Holds w41_ (ro R :: cl pw 255 [(Value.iface 95 (Value.pointer (some ⟨pg, 0, none⟩))), (Value.int .i64 (po : Int)), (Value.int .i64 4096), (Value.int .i64 ((pd ++ ns).length : Int)), (Value.slice (some ⟨bb, 0, none⟩) 135168 135168), (Value.int .i64 131072)] :: cl bb 5 c__ :: cl pg 97 [V] :: sl 5 1 V (List.length os) (bytesV os) :: F)) (rfl : bytesV (pd ++ ns) ++ List.drop ns.length junk = bytesV (pd ++ ns) ++ (List.drop ns.length junk)) H51_
        exact ⟨_, [cl pw 255 [(Value.iface 95 (Value.pointer (some ⟨pg, 0, none⟩))), (Value.int .i64 (po : Int)), (Value.int .i64 4096), (Value.int .i64 ((pd ++ ns).length : Int)), (Value.slice (some ⟨bb, 0, none⟩) 135168 135168), (Value.int .i64 131072)], cl bb 5 (bytesV (pd ++ ns) ++ (List.drop ns.length junk)), cl pg 97 [V], sl 5 1 V (List.length os) (bytesV os)], rfl, ⟨(ns.length : Int), po, pd ++ ns, List.drop ns.length junk, V, os, rfl, rfl, (by first | assumption | omega | exact rfl), (by rw [List.length_append, List.length_drop]; omega), (by rw [List.append_assoc]), (by rw [List.length_append, ← Nat.add_assoc]; omega)⟩, S44_, H52_⟩
      · have c32_fp : ¬ ((ns.length : Int) < (sk : Int)) := of_decide_eq_false c32_f
        refine C_skip (X_then (hK30_ _ _ ?_))
        clear hK30_
        refine C_seq (fun K53_ hK53_ => ?_)
        refine A_start (S := fun w => Rd pw [(Value.iface 95 (Value.pointer (some ⟨pg, 0, none⟩))), (Value.int .i64 (po : Int)), (Value.int .i64 4096), (Value.int .i64 (pd.length : Int)), (Value.slice (some ⟨bb, 0, none⟩) 135168 135168), (Value.int .i64 131072)] w ∧ Rd pg [V] w ∧ SlRd V (bytesV os) w ∧ Sub R (hp w)) (N := 13) foll rfl rfl ?_
        have H54_ : Holds w.drew.drew.drew (ro R :: cl pw 255 [(Value.iface 95 (Value.pointer (some ⟨pg, 0, none⟩))), (Value.int .i64 (po : Int)), (Value.int .i64 4096), (Value.int .i64 (pd.length : Int)), (Value.slice (some ⟨bb, 0, none⟩) 135168 135168), (Value.int .i64 131072)] :: cl bb 5 (bytesV pd ++ junk) :: cl pg 97 [V] :: sl 5 1 V (List.length os) (bytesV os) :: F) := H24_
        have hq55_ := And.intro (Holds.rd H54_ 1 rfl) (And.intro (Holds.rd H54_ 3 rfl) (And.intro (Holds.slrd H54_ 4 rfl) ((Holds.ro_at H54_ 0 rfl))))
        refine A_tk 0 (v := (Value.pointer (some ⟨pw, 0, none⟩))) rfl (by kernel_rfl) (fun w hS => x_move rfl) hq55_ ?_
        refine A_tk 1 (v := (Value.pointer (some ⟨pw, 0, none⟩))) rfl (by kernel_rfl) (fun w hS => by kernel_rfl) hq55_ ?_
        refine A_tk 2 (v := (Value.pointer (some ⟨pw, 4, none⟩))) rfl (by kernel_rfl) (fun w hS => by kernel_rfl) hq55_ ?_
        refine A_tk 3 (v := (Value.slice (some ⟨bb, 0, none⟩) 135168 135168)) rfl (by kernel_rfl) (fun w hS => x_load1 rfl Try.underlying43 rfl (hS.1 4 (Value.slice (some ⟨bb, 0, none⟩) 135168 135168) rfl)) hq55_ ?_
        refine A_tk 4 (v := (Value.pointer (some ⟨pw, 0, none⟩))) rfl (by kernel_rfl) (fun w hS => x_move rfl) hq55_ ?_
        refine A_tk 5 (v := (Value.pointer (some ⟨pw, 0, none⟩))) rfl (by kernel_rfl) (fun w hS => by kernel_rfl) hq55_ ?_
        refine A_tk 6 (v := (Value.pointer (some ⟨pw, 3, none⟩))) rfl (by kernel_rfl) (fun w hS => by kernel_rfl) hq55_ ?_
        refine A_tk 7 (v := (Value.int .i64 (pd.length : Int))) rfl (by kernel_rfl) (fun w hS => x_load1 rfl Try.underlying3 rfl (hS.1 3 (Value.int .i64 (pd.length : Int)) rfl)) hq55_ ?_
        refine A_tk 8 (v := (Value.slice (some ⟨bb, pd.length, none⟩) (135168 - pd.length) (135168 - pd.length))) rfl (by kernel_rfl) (fun w hS => x_slice (l := pd.length) (h := 135168) rfl Try.underlying43 z5 rfl ⟨_, _, rfl, by omega, by omega, by omega⟩ ((by rw [if_neg (by omega)]; first | rfl | simp [add_mk]))) hq55_ ?_
        refine A_tk 9 (v := p) rfl (by kernel_rfl) (fun w hS => x_move rfl) hq55_ ?_
        refine A_tk 10 (v := (Value.int .i64 (sk : Int))) rfl (by kernel_rfl) (fun w hS => x_move rfl) hq55_ ?_
        refine A_tk 11 (v := (slc p 0 sk 1)) rfl (by kernel_rfl) (fun w hS => x_sliceRS (l := 0) (h := sk) rfl hP Try.underlying43 z5 (by omega) ⟨_, _, rfl, by omega, by omega, by omega⟩ rfl) hq55_ ?_
        refine A_ready (i := 12) (rs := []) (by kernel_rfl) ?_
        refine AllR.cons ?_ AllR.nil
        refine A_op (ls' := #[true, true, true, true, true, true, true, true, true, true, true, true, true]) rfl (by kernel_rfl) (T_copy rfl rfl Try.underlying43 z5 H54_ 2 rfl (RS.slcB hP (by omega : 0 ≤ sk) (by omega : sk ≤ ns.length)) (Holds.ro_at H54_ 0 rfl) (by omega) (by simp only [List.length_append, bytesV_len]; omega) (one_bytes _) ?_)
        intro w56_ S58_ H57_
        replace H57_ : Holds w56_ (ro R :: cl pw 255 [(Value.iface 95 (Value.pointer (some ⟨pg, 0, none⟩))), (Value.int .i64 (po : Int)), (Value.int .i64 4096), (Value.int .i64 (pd.length : Int)), (Value.slice (some ⟨bb, 0, none⟩) 135168 135168), (Value.int .i64 131072)] :: cl bb 5 (List.take pd.length (bytesV pd ++ junk) ++ (bytesV ((List.drop 0 ns).take (sk - 0))) ++ List.drop (pd.length + List.length (bytesV ((List.drop 0 ns).take (sk - 0)))) (bytesV pd ++ junk)) :: cl pg 97 [V] :: sl 5 1 V (List.length os) (bytesV os) :: F) := H57_
        have S59_ := Same.trans (Same.trans (Same.trans (Same.trans (Same.refl w) (Same.drew _)) (Same.drew _)) (Same.drew _)) S58_
        refine ⟨⟨Holds.rd H57_ 1 rfl, Holds.rd H57_ 3 rfl, Holds.slrd H57_ 4 rfl, (Holds.ro_at H57_ 0 rfl)⟩, ?_⟩
        refine A_done (by kernel_rfl) ?_
        refine (X_then (hK53_ _ _ ?_))
        clear hK53_
        refine C_seq (fun K60_ hK60_ => ?_)
        refine C_reg ?_
        refine S_list (T_val (v := (Value.pointer (some ⟨pw, 0, none⟩))) (x_move rfl) ?_)
        refine S_list (T_val (v := (Value.pointer (some ⟨pw, 0, none⟩))) (by kernel_rfl) ?_)
        refine S_list (T_val (v := (Value.pointer (some ⟨pw, 3, none⟩))) (by kernel_rfl) ?_)
        refine S_list (T_val (v := (Value.int .i64 (pd.length : Int))) (x_load1 rfl Try.underlying3 rfl ((Holds.rd H57_ 1 rfl) 3 (Value.int .i64 (pd.length : Int)) rfl)) ?_)
        refine S_list (T_val (v := (Value.int .i64 (sk : Int))) (x_move rfl) ?_)
        refine S_list (T_val (v := (Value.int .i64 ((pd.length : Int) + (sk : Int)))) (x_bin rfl rfl (ib_add (IntWalk.i64_in _ (by omega)))) ?_)
        refine S_list (T_val (v := (Value.pointer (some ⟨pw, 0, none⟩))) (by kernel_rfl) ?_)
        refine S_list (T_val (v := (Value.pointer (some ⟨pw, 3, none⟩))) (by kernel_rfl) ?_)
        refine S_list0 (T_store1 (v := (Value.int .i64 ((pd.length : Int) + (sk : Int)))) rfl rfl z3 rfl H57_ 1 rfl (Nat.le_of_ble_eq_true (by rfl)) ?_)
        intro w61_ S63_ H62_
        replace H62_ : Holds w61_ (ro R :: cl pw 255 [(Value.iface 95 (Value.pointer (some ⟨pg, 0, none⟩))), (Value.int .i64 (po : Int)), (Value.int .i64 4096), (Value.int .i64 ((pd.length : Int) + (sk : Int))), (Value.slice (some ⟨bb, 0, none⟩) 135168 135168), (Value.int .i64 131072)] :: cl bb 5 (List.take pd.length (bytesV pd ++ junk) ++ (bytesV ((List.drop 0 ns).take (sk - 0))) ++ List.drop (pd.length + List.length (bytesV ((List.drop 0 ns).take (sk - 0)))) (bytesV pd ++ junk)) :: cl pg 97 [V] :: sl 5 1 V (List.length os) (bytesV os) :: F) := H62_
        have S64_ := Same.trans S59_ S63_
        refine wpList_nil ?_
        refine (X_then (hK60_ _ _ ?_))
        clear hK60_
        refine C_seq (fun K65_ hK65_ => ?_)
        refine C_reg ?_
        refine S_list (T_val (v := (Value.int .i64 (sk : Int))) (x_move rfl) ?_)
        refine S_list (T_val (v := (Value.int .i64 (sk : Int))) (x_assign rfl) ?_)
        refine wpList_nil ?_
        refine (X_then (hK65_ _ _ ?_))
        clear hK65_
        refine C_seq (fun K66_ hK66_ => ?_)
        refine C_reg ?_
        refine S_list (T_val (v := p) (x_move rfl) ?_)
        refine S_list (T_val (v := (Value.int .i64 (sk : Int))) (x_move rfl) ?_)
        refine S_list (T_val (v := (slc p sk ns.length 1)) (x_sliceRS (l := sk) (h := ns.length) rfl hP Try.underlying43 z5 (by omega) rfl ⟨_, _, rfl, by omega, by omega, by omega⟩) ?_)
        refine S_list (T_val (v := (slc p sk ns.length 1)) (x_assign rfl) ?_)
        refine wpList_nil ?_
        refine (X_then (hK66_ _ _ ?_))
        clear hK66_
        refine C_seq (fun K67_ hK67_ => ?_)
        refine C_reg ?_
        refine S_list (T_val (v := (Value.bool (decide ((ns.length : Int) < (sk : Int))))) (x_move rfl) ?_)
        refine wpList_nil ?_
        refine (X_then (hK67_ _ _ ?_))
        clear hK67_
        refine C_condF (congrArg Value.bool c32_f) ?_
        refine C_skip (X_then (hK26_ _ _ ?_))
        clear hK26_
        refine C_seq (fun K68_ hK68_ => ?_)
        refine C_seq (fun K69_ hK69_ => ?_)
        refine C_reg ?_
        refine S_list (T_val (v := (Value.pointer (some ⟨pw, 0, none⟩))) (x_move rfl) ?_)
        refine S_list (T_callW (al := [(Value.pointer (some ⟨pw, 0, none⟩))]) rfl rfl cb104 (Calls.into (n := 11) (al := [(Value.pointer (some ⟨pw, 0, none⟩))]) Try.func104 rfl Try.ntmps104 rfl rfl ?_))
        refine C_seq (fun K70_ hK70_ => ?_)
        refine C_reg ?_
        refine S_list (T_val (v := (Value.nilIface)) (x_assign rfl) ?_)
        refine wpList_nil ?_
        refine (X_then (hK70_ _ _ ?_))
        clear hK70_
        refine C_seq (fun K71_ hK71_ => ?_)
        refine C_reg ?_
        refine S_list (T_val (v := (Value.pointer (some ⟨pw, 0, none⟩))) (x_move rfl) ?_)
        have hpc : ((List.drop 0 ns).take (sk - 0)).length = sk := by simp; omega
        have H72_ : Holds w61_ (ro R :: cl pw 255 [(Value.iface 95 (Value.pointer (some ⟨pg, 0, none⟩))), (Value.int .i64 (po : Int)), (Value.int .i64 4096), (Value.int .i64 ((pd.length : Int) + (sk : Int))), (Value.slice (some ⟨bb, 0, none⟩) 135168 135168), (Value.int .i64 131072)] :: cl bb 5 (bytesV (pd ++ ((List.drop 0 ns).take (sk - 0))) ++ List.drop ((List.drop 0 ns).take (sk - 0)).length junk) :: cl pg 97 [V] :: sl 5 1 V (List.length os) (bytesV os) :: F) := cast1 (P := fun (c__ : List Value) => Holds w61_ (ro R :: cl pw 255 [(Value.iface 95 (Value.pointer (some ⟨pg, 0, none⟩))), (Value.int .i64 (po : Int)), (Value.int .i64 4096), (Value.int .i64 ((pd.length : Int) + (sk : Int))), (Value.slice (some ⟨bb, 0, none⟩) 135168 135168), (Value.int .i64 131072)] :: cl bb 5 c__ :: cl pg 97 [V] :: sl 5 1 V (List.length os) (bytesV os) :: F)) (buf_put pd ((List.drop 0 ns).take (sk - 0)) junk : List.take pd.length (bytesV pd ++ junk) ++ (bytesV ((List.drop 0 ns).take (sk - 0))) ++ List.drop (pd.length + List.length (bytesV ((List.drop 0 ns).take (sk - 0)))) (bytesV pd ++ junk) = bytesV (pd ++ ((List.drop 0 ns).take (sk - 0))) ++ List.drop ((List.drop 0 ns).take (sk - 0)).length junk) H62_
        have H73_ : Holds w61_ (ro R :: cl pw 255 [(Value.iface 95 (Value.pointer (some ⟨pg, 0, none⟩))), (Value.int .i64 (po : Int)), (Value.int .i64 4096), (Value.int .i64 ((pd ++ (List.drop 0 ns).take (sk - 0)).length : Int)), (Value.slice (some ⟨bb, 0, none⟩) 135168 135168), (Value.int .i64 131072)] :: cl bb 5 (bytesV (pd ++ ((List.drop 0 ns).take (sk - 0))) ++ List.drop ((List.drop 0 ns).take (sk - 0)).length junk) :: cl pg 97 [V] :: sl 5 1 V (List.length os) (bytesV os) :: F) := cast1 (P := fun (c__ : List Value) => Holds w61_ (ro R :: cl pw 255 c__ :: cl bb 5 (bytesV (pd ++ ((List.drop 0 ns).take (sk - 0))) ++ List.drop ((List.drop 0 ns).take (sk - 0)).length junk) :: cl pg 97 [V] :: sl 5 1 V (List.length os) (bytesV os) :: F)) (by rw [show (pd.length : Int) + (sk : Int) = ((pd ++ (List.drop 0 ns).take (sk - 0)).length : Int) by rw [List.length_append, hpc]; omega] : [(Value.iface 95 (Value.pointer (some ⟨pg, 0, none⟩))), (Value.int .i64 (po : Int)), (Value.int .i64 4096), (Value.int .i64 ((pd.length : Int) + (sk : Int))), (Value.slice (some ⟨bb, 0, none⟩) 135168 135168), (Value.int .i64 131072)] = [(Value.iface 95 (Value.pointer (some ⟨pg, 0, none⟩))), (Value.int .i64 (po : Int)), (Value.int .i64 4096), (Value.int .i64 ((pd ++ (List.drop 0 ns).take (sk - 0)).length : Int)), (Value.slice (some ⟨bb, 0, none⟩) 135168 135168), (Value.int .i64 131072)]) H72_
        have H74_ : Holds w61_ (ro R :: cl pw 255 [(Value.iface 95 (Value.pointer (some ⟨pg, 0, none⟩))), (Value.int .i64 (po : Int)), (Value.int .i64 4096), (Value.int .i64 ((pd ++ (List.drop 0 ns).take (sk - 0)).length : Int)), (Value.slice (some ⟨bb, 0, none⟩) 135168 135168), (Value.int .i64 131072)] :: cl bb 5 (bytesV (pd ++ (List.drop 0 ns).take (sk - 0)) ++ (List.drop ((List.drop 0 ns).take (sk - 0)).length junk)) :: cl pg 97 [V] :: sl 5 1 V (List.length os) (bytesV os) :: F) := cast1 (P := fun (c__ : List Value) => Holds w61_ (ro R :: cl pw 255 [(Value.iface 95 (Value.pointer (some ⟨pg, 0, none⟩))), (Value.int .i64 (po : Int)), (Value.int .i64 4096), (Value.int .i64 ((pd ++ (List.drop 0 ns).take (sk - 0)).length : Int)), (Value.slice (some ⟨bb, 0, none⟩) 135168 135168), (Value.int .i64 131072)] :: cl bb 5 c__ :: cl pg 97 [V] :: sl 5 1 V (List.length os) (bytesV os) :: F)) (rfl : bytesV (pd ++ ((List.drop 0 ns).take (sk - 0))) ++ List.drop ((List.drop 0 ns).take (sk - 0)).length junk = bytesV (pd ++ (List.drop 0 ns).take (sk - 0)) ++ (List.drop ((List.drop 0 ns).take (sk - 0)).length junk)) H73_
        refine S_list (T_call (al := [(Value.pointer (some ⟨pw, 0, none⟩))]) (pre := [cl pw 255 [(Value.iface 95 (Value.pointer (some ⟨pg, 0, none⟩))), (Value.int .i64 (po : Int)), (Value.int .i64 4096), (Value.int .i64 ((pd ++ (List.drop 0 ns).take (sk - 0)).length : Int)), (Value.slice (some ⟨bb, 0, none⟩) 135168 135168), (Value.int .i64 131072)], cl bb 5 (bytesV (pd ++ (List.drop 0 ns).take (sk - 0)) ++ (List.drop ((List.drop 0 ns).take (sk - 0)).length junk)), cl pg 97 [V], sl 5 1 V (List.length os) (bytesV os)]) (F := F) rfl rfl cb115 (wFlush R pw bb pg po (pd ++ (List.drop 0 ns).take (sk - 0)) (List.drop ((List.drop 0 ns).take (sk - 0)).length junk) V os (by first | assumption | omega) (by rw [List.length_append, List.length_drop, hpc]; omega) (by rw [List.length_append, hpc]; omega)) H74_ ?_)
        rintro v75_ p85_ w82_ ⟨nn76_, po77_, junk78_, V79_, rfl, rfl, he80_, he81_⟩ S84_ H83_
        replace H83_ : Holds w82_ (ro R :: cl pw 255 [(Value.iface 95 (Value.pointer (some ⟨pg, 0, none⟩))), (Value.int .i64 (po77_ : Int)), (Value.int .i64 4096), (Value.int .i64 0), (Value.slice (some ⟨bb, 0, none⟩) 135168 135168), (Value.int .i64 131072)] :: cl bb 5 (bytesV [] ++ junk78_) :: cl pg 97 [V79_] :: sl 5 1 V79_ (List.length (os ++ (pd ++ (List.drop 0 ns).take (sk - 0)))) (bytesV (os ++ (pd ++ (List.drop 0 ns).take (sk - 0)))) :: F) := H83_
        have S86_ := Same.trans S64_ S84_
        refine S_list (T_val (v := (Value.tuple #[(Value.int .i64 nn76_), (Value.nilIface)])) (x_move rfl) ?_)
        refine S_list (T_val (v := (Value.int .i64 nn76_)) (by kernel_rfl) ?_)
        refine S_list (T_val (v := (Value.nilIface)) (by kernel_rfl) ?_)
        refine S_list (T_val (v := (Value.int .i64 nn76_)) (x_assign rfl) ?_)
        refine S_list (T_val (v := (Value.nilIface)) (x_assign rfl) ?_)
        refine wpList_nil ?_
        refine (X_then (hK71_ _ _ ?_))
        clear hK71_
        refine C_seq (fun K87_ hK87_ => ?_)
        refine C_reg ?_
        refine S_list (T_val (v := (Value.nilIface)) (x_move rfl) ?_)
        refine S_list (T_val (v := (Value.nilIface)) (x_assign rfl) ?_)
        refine wpList_nil ?_
        refine (X_then (hK87_ _ _ ?_))
        clear hK87_
        refine C_ret ?_
        refine R_any (v := (Value.nilIface)) (run_results1 rfl rfl) ⟨_, rfl, ?_⟩
        refine S_list (T_val (v := (Value.nilIface)) (x_assign rfl) ?_)
        refine wpList_nil ?_
        refine (X_then (hK69_ _ _ ?_))
        clear hK69_
        refine C_seq (fun K88_ hK88_ => ?_)
        refine C_reg ?_
        refine S_list (T_val (v := (Value.nilIface)) (x_move rfl) ?_)
        refine S_list (T_val (v := (Value.bool false)) (by kernel_rfl) ?_)
        refine wpList_nil ?_
        refine (X_then (hK88_ _ _ ?_))
        clear hK88_
        refine C_condF rfl ?_
        refine C_skip (X_then (hK68_ _ _ ?_))
        clear hK68_
        refine C_seq (fun K89_ hK89_ => ?_)
        refine C_seq (fun K90_ hK90_ => ?_)
        refine C_reg ?_
        refine S_list (T_val (v := (slc p sk ns.length 1)) (x_move rfl) ?_)
        refine S_list (T_val (v := (Value.int .i64 ((ns.length - sk : Nat) : Int))) (x_lenRS rfl (RS.slcB hP (by omega : sk ≤ ns.length) (by omega : ns.length ≤ ns.length)) Try.underlying43) ?_)
        refine S_list (T_val (v := (Value.pointer (some ⟨pw, 0, none⟩))) (x_move rfl) ?_)
        refine S_list (T_val (v := (Value.pointer (some ⟨pw, 0, none⟩))) (by kernel_rfl) ?_)
        refine S_list (T_val (v := (Value.pointer (some ⟨pw, 2, none⟩))) (by kernel_rfl) ?_)
        refine S_list (T_val (v := (Value.int .i64 4096)) (x_load1 rfl Try.underlying3 rfl ((Holds.rd H83_ 1 rfl) 2 (Value.int .i64 4096) rfl)) ?_)
        refine S_list (T_val (v := (Value.bool (decide (4096 < ((ns.length - sk : Nat) : Int))))) (x_bin rfl rfl rfl) ?_)
        refine wpList_nil ?_
        refine (X_then (hK90_ _ _ ?_))
        clear hK90_
        refine C_cond (b := decide (4096 < ((ns.length - sk : Nat) : Int))) rfl (fun c91_t => ?_) (fun c91_f => ?_)
        · have c91_tp : 4096 < ((ns.length - sk : Nat) : Int) := of_decide_eq_true c91_t
          refine C_seq (fun K92_ hK92_ => ?_)
          refine C_reg ?_
          refine S_list (T_val (v := (slc p sk ns.length 1)) (x_move rfl) ?_)
          refine S_list (T_val (v := (Value.int .i64 ((ns.length - sk : Nat) : Int))) (x_lenRS rfl (RS.slcB hP (by omega : sk ≤ ns.length) (by omega : ns.length ≤ ns.length)) Try.underlying43) ?_)
          refine S_list (T_val (v := (Value.pointer (some ⟨pw, 0, none⟩))) (x_move rfl) ?_)
          refine S_list (T_val (v := (Value.pointer (some ⟨pw, 0, none⟩))) (by kernel_rfl) ?_)
          refine S_list (T_val (v := (Value.pointer (some ⟨pw, 2, none⟩))) (by kernel_rfl) ?_)
          refine S_list (T_val (v := (Value.int .i64 4096)) (x_load1 rfl Try.underlying3 rfl ((Holds.rd H83_ 1 rfl) 2 (Value.int .i64 4096) rfl)) ?_)
          obtain ⟨q, hq⟩ : ∃ q, (ns.length - sk) / 4096 = q := ⟨_, rfl⟩
          obtain ⟨tt, htt⟩ : ∃ t, q * 4096 = t := ⟨_, rfl⟩
          refine S_list (T_val (v := (Value.int .i64 (q : Int))) (x_bin rfl rfl (ib_quoN (x := (ns.length - sk)) (y := 4096) (r := q) (by omega) (by omega) (by omega) (by omega) hq)) ?_)
          refine S_list (T_val (v := (Value.int .i64 (q : Int))) (x_assign rfl) ?_)
          refine wpList_nil ?_
          refine (X_then (hK92_ _ _ ?_))
          clear hK92_
          refine C_seq (fun K93_ hK93_ => ?_)
          refine A_start (S := fun w => Rd pw [(Value.iface 95 (Value.pointer (some ⟨pg, 0, none⟩))), (Value.int .i64 (po77_ : Int)), (Value.int .i64 4096), (Value.int .i64 0), (Value.slice (some ⟨bb, 0, none⟩) 135168 135168), (Value.int .i64 131072)] w ∧ Sub R (hp w)) (N := 20) foll rfl rfl ?_
          have H94_ : Holds w82_.drew (ro R :: cl pw 255 [(Value.iface 95 (Value.pointer (some ⟨pg, 0, none⟩))), (Value.int .i64 (po77_ : Int)), (Value.int .i64 4096), (Value.int .i64 0), (Value.slice (some ⟨bb, 0, none⟩) 135168 135168), (Value.int .i64 131072)] :: cl bb 5 (bytesV [] ++ junk78_) :: cl pg 97 [V79_] :: sl 5 1 V79_ (List.length (os ++ (pd ++ (List.drop 0 ns).take (sk - 0)))) (bytesV (os ++ (pd ++ (List.drop 0 ns).take (sk - 0)))) :: F) := H83_
          have hq95_ := And.intro (Holds.rd H94_ 1 rfl) ((Holds.ro_at H94_ 0 rfl))
          refine A_tk 0 (v := (Value.pointer (some ⟨pw, 0, none⟩))) rfl (by kernel_rfl) (fun w hS => x_move rfl) hq95_ ?_
          refine A_tk 1 (v := (Value.pointer (some ⟨pw, 0, none⟩))) rfl (by kernel_rfl) (fun w hS => by kernel_rfl) hq95_ ?_
          refine A_tk 2 (v := (Value.pointer (some ⟨pw, 0, none⟩))) rfl (by kernel_rfl) (fun w hS => by kernel_rfl) hq95_ ?_
          refine A_tk 3 (v := (Value.iface 95 (Value.pointer (some ⟨pg, 0, none⟩)))) rfl (by kernel_rfl) (fun w hS => x_load1 rfl Try.underlying168 rfl (hS.1 0 (Value.iface 95 (Value.pointer (some ⟨pg, 0, none⟩))) rfl)) hq95_ ?_
          refine A_tk 4 (v := (slc p sk ns.length 1)) rfl (by kernel_rfl) (fun w hS => x_move rfl) hq95_ ?_
          refine A_tk 5 (v := (Value.int .i64 (q : Int))) rfl (by kernel_rfl) (fun w hS => x_move rfl) hq95_ ?_
          refine A_tk 6 (v := (Value.pointer (some ⟨pw, 0, none⟩))) rfl (by kernel_rfl) (fun w hS => x_move rfl) hq95_ ?_
          refine A_tk 7 (v := (Value.pointer (some ⟨pw, 0, none⟩))) rfl (by kernel_rfl) (fun w hS => by kernel_rfl) hq95_ ?_
          refine A_tk 8 (v := (Value.pointer (some ⟨pw, 2, none⟩))) rfl (by kernel_rfl) (fun w hS => by kernel_rfl) hq95_ ?_
          refine A_tk 9 (v := (Value.int .i64 4096)) rfl (by kernel_rfl) (fun w hS => x_load1 rfl Try.underlying3 rfl (hS.1 2 (Value.int .i64 4096) rfl)) hq95_ ?_
          refine A_tk 10 (v := (Value.int .i64 (tt : Int))) rfl (by kernel_rfl) (fun w hS => x_bin rfl rfl (ib_mulN (x := q) (y := 4096) (r := tt) rfl rfl htt (by omega))) hq95_ ?_
          refine A_tk 11 (v := (slc (slc p sk ns.length 1) 0 tt 1)) rfl (by kernel_rfl) (fun w hS => x_sliceRS (l := 0) (h := tt) rfl (RS.slcB hP (by omega : sk ≤ ns.length) (by omega : ns.length ≤ ns.length)) Try.underlying43 z5 (by omega) ⟨_, _, rfl, by omega, by omega, by omega⟩ rfl) hq95_ ?_
          refine A_tk 12 (v := (Value.iface 95 (Value.pointer (some ⟨pg, 0, none⟩)))) rfl (by kernel_rfl) (fun w hS => by kernel_rfl) hq95_ ?_
          refine A_tk 13 (v := (Value.iface 95 (Value.pointer (some ⟨pg, 0, none⟩)))) rfl (by kernel_rfl) (fun w hS => x_move rfl) hq95_ ?_
          refine A_ready (i := 14) (rs := []) (by kernel_rfl) ?_
          refine AllR.cons ?_ AllR.nil
          have hl96_ := RS.blen (RS.slcB (RS.slcB hP (by omega : sk ≤ ns.length) (by omega : ns.length ≤ ns.length)) (by omega : 0 ≤ tt) (by omega : tt ≤ (ns.length - sk)))
          have H99_ : Holds w82_.drew (ro R :: cl pg 97 [V79_] :: sl 5 1 V79_ (List.length (os ++ (pd ++ (List.drop 0 ns).take (sk - 0)))) (bytesV (os ++ (pd ++ (List.drop 0 ns).take (sk - 0)))) :: cl pw 255 [(Value.iface 95 (Value.pointer (some ⟨pg, 0, none⟩))), (Value.int .i64 (po77_ : Int)), (Value.int .i64 4096), (Value.int .i64 0), (Value.slice (some ⟨bb, 0, none⟩) 135168 135168), (Value.int .i64 131072)] :: cl bb 5 (bytesV [] ++ junk78_) :: F) := (Holds.bring (Holds.bring (Holds.bring H94_ 4 rfl) 4 rfl) 2 rfl)
          refine A_op (ls' := #[true, true, true, true, true, true, true, true, true, true, true, true, true, true, true, false, false, false, false, false]) rfl (by kernel_rfl) (T_invoke (al := [(Value.pointer (some ⟨pg, 0, none⟩)), ((slc (slc p sk ns.length 1) 0 tt 1))]) (pre := [cl pg 97 [V79_], sl 5 1 V79_ (List.length (os ++ (pd ++ (List.drop 0 ns).take (sk - 0)))) (bytesV (os ++ (pd ++ (List.drop 0 ns).take (sk - 0))))]) (F := cl pw 255 [(Value.iface 95 (Value.pointer (some ⟨pg, 0, none⟩))), (Value.int .i64 (po77_ : Int)), (Value.int .i64 4096), (Value.int .i64 0), (Value.slice (some ⟨bb, 0, none⟩) 135168 135168), (Value.int .i64 131072)] :: cl bb 5 (bytesV [] ++ junk78_) :: F) rfl (fun w => by kernel_rfl) (lcons rfl (lcons (rfl : (slc (slc p sk ns.length 1) 0 tt 1) = ((slc (slc p sk ns.length 1) 0 tt 1))) rfl)) cb152 (wPage R pg (slc (slc p sk ns.length 1) 0 tt 1) V79_ (os ++ (pd ++ (List.drop 0 ns).take (sk - 0))) ((List.drop 0 ((List.drop sk ns).take (ns.length - sk))).take (tt - 0)) (RS.set_ (RS.slcB (RS.slcB hP (by omega : sk ≤ ns.length) (by omega : ns.length ≤ ns.length)) (by omega : 0 ≤ tt) (by omega : tt ≤ (ns.length - sk))) rfl (by first | rfl | omega | (simp; done) | (simp; omega))) (by simp only [List.length_append, List.length_take, List.length_drop]; omega) (by simp only [List.length_append, List.length_take, List.length_drop]; omega)) H99_ ?_)
          rintro v97_ p103_ w100_ ⟨V98_, rfl, rfl⟩ S102_ H101_
          replace H101_ : Holds w100_ (ro R :: cl pg 97 [V98_] :: sl 5 1 V98_ (List.length ((os ++ (pd ++ (List.drop 0 ns).take (sk - 0))) ++ ((List.drop 0 ((List.drop sk ns).take (ns.length - sk))).take (tt - 0)))) (bytesV ((os ++ (pd ++ (List.drop 0 ns).take (sk - 0))) ++ ((List.drop 0 ((List.drop sk ns).take (ns.length - sk))).take (tt - 0)))) :: cl pw 255 [(Value.iface 95 (Value.pointer (some ⟨pg, 0, none⟩))), (Value.int .i64 (po77_ : Int)), (Value.int .i64 4096), (Value.int .i64 0), (Value.slice (some ⟨bb, 0, none⟩) 135168 135168), (Value.int .i64 131072)] :: cl bb 5 (bytesV [] ++ junk78_) :: F) := H101_
          have S104_ := Same.trans (Same.trans S86_ (Same.drew _)) S102_
          refine ⟨⟨Holds.rd H101_ 3 rfl, (Holds.ro_at H101_ 0 rfl)⟩, ?_⟩
          have hq105_ := And.intro (Holds.rd H101_ 3 rfl) ((Holds.ro_at H101_ 0 rfl))
          refine A_tk 15 (v := (Value.tuple #[(Value.int .i64 (((List.drop 0 ((List.drop sk ns).take (ns.length - sk))).take (tt - 0)).length : Int)), (Value.nilIface)])) rfl (by kernel_rfl) (fun w hS => x_move rfl) hq105_ ?_
          refine A_tk 16 (v := (Value.int .i64 (((List.drop 0 ((List.drop sk ns).take (ns.length - sk))).take (tt - 0)).length : Int))) rfl (by kernel_rfl) (fun w hS => by kernel_rfl) hq105_ ?_
          refine A_tk 17 (v := (Value.nilIface)) rfl (by kernel_rfl) (fun w hS => by kernel_rfl) hq105_ ?_
          refine A_tk 18 (v := (Value.int .i64 (((List.drop 0 ((List.drop sk ns).take (ns.length - sk))).take (tt - 0)).length : Int))) rfl (by kernel_rfl) (fun w hS => x_assign rfl) hq105_ ?_
          refine A_tk 19 (v := (Value.nilIface)) rfl (by kernel_rfl) (fun w hS => x_assign rfl) hq105_ ?_
          refine A_done (by kernel_rfl) ?_
          refine (X_then (hK93_ _ _ ?_))
          clear hK93_
          refine C_seq (fun K106_ hK106_ => ?_)
          refine C_reg ?_
          refine S_list (T_val (v := (Value.int .i64 (sk : Int))) (x_move rfl) ?_)
          refine S_list (T_val (v := (Value.int .i64 (((List.drop 0 ((List.drop sk ns).take (ns.length - sk))).take (tt - 0)).length : Int))) (x_move rfl) ?_)
          refine S_list (T_val (v := (Value.int .i64 ((sk : Int) + (((List.drop 0 ((List.drop sk ns).take (ns.length - sk))).take (tt - 0)).length : Int)))) (x_bin rfl rfl (ib_add (IntWalk.i64_in _ (by omega)))) ?_)
          refine S_list (T_val (v := (Value.int .i64 ((sk : Int) + (((List.drop 0 ((List.drop sk ns).take (ns.length - sk))).take (tt - 0)).length : Int)))) (x_assign rfl) ?_)
          refine wpList_nil ?_
          refine (X_then (hK106_ _ _ ?_))
          clear hK106_
          refine C_seq (fun K107_ hK107_ => ?_)
          refine C_seq (fun K108_ hK108_ => ?_)
          refine C_reg ?_
          refine S_list (T_val (v := (Value.nilIface)) (x_move rfl) ?_)
          refine S_list (T_val (v := (Value.bool false)) (by kernel_rfl) ?_)
          refine wpList_nil ?_
          refine (X_then (hK108_ _ _ ?_))
          clear hK108_
          refine C_condF rfl ?_
          refine C_skip (X_then (hK107_ _ _ ?_))
          clear hK107_
          refine C_reg ?_
          refine S_list (T_val (v := (slc p sk ns.length 1)) (x_move rfl) ?_)
          refine S_list (T_val (v := (Value.int .i64 (q : Int))) (x_move rfl) ?_)
          refine S_list (T_val (v := (Value.pointer (some ⟨pw, 0, none⟩))) (x_move rfl) ?_)
          refine S_list (T_val (v := (Value.pointer (some ⟨pw, 0, none⟩))) (by kernel_rfl) ?_)
          refine S_list (T_val (v := (Value.pointer (some ⟨pw, 2, none⟩))) (by kernel_rfl) ?_)
          refine S_list (T_val (v := (Value.int .i64 4096)) (x_load1 rfl Try.underlying3 rfl ((Holds.rd H101_ 3 rfl) 2 (Value.int .i64 4096) rfl)) ?_)
          refine S_list (T_val (v := (Value.int .i64 (tt : Int))) (x_bin rfl rfl (ib_mulN (x := q) (y := 4096) (r := tt) rfl rfl htt (by omega))) ?_)
          refine S_list (T_val (v := (slc (slc p sk ns.length 1) tt (ns.length - sk) 1)) (x_sliceRS (l := tt) (h := (ns.length - sk)) rfl (RS.slcB hP (by omega : sk ≤ ns.length) (by omega : ns.length ≤ ns.length)) Try.underlying43 z5 (by omega) rfl ⟨_, _, rfl, by omega, by omega, by omega⟩) ?_)
          refine S_list (T_val (v := (slc (slc p sk ns.length 1) tt (ns.length - sk) 1)) (x_assign rfl) ?_)
          refine wpList_nil ?_
          refine (X_then (hK89_ _ _ ?_))
          clear hK89_
          refine C_seq (fun K109_ hK109_ => ?_)
          refine C_reg ?_
          refine S_list (T_val (v := (Value.pointer (some ⟨pw, 0, none⟩))) (x_move rfl) ?_)
          refine S_list (T_val (v := (slc (slc p sk ns.length 1) tt (ns.length - sk) 1)) (x_move rfl) ?_)
          have hl110_ := RS.blen (RS.slcB (RS.slcB hP (by omega : sk ≤ ns.length) (by omega : ns.length ≤ ns.length)) (by omega : tt ≤ (ns.length - sk)) (by omega : (ns.length - sk) ≤ (ns.length - sk)))
          have H111_ : Holds w100_ (ro R :: cl pg 97 [V98_] :: sl 5 1 V98_ (List.length ((os ++ (pd ++ (List.drop 0 ns).take (sk - 0))) ++ ((List.drop 0 ((List.drop sk ns).take (ns.length - sk))).take (tt - 0)))) (bytesV ((os ++ (pd ++ (List.drop 0 ns).take (sk - 0))) ++ ((List.drop 0 ((List.drop sk ns).take (ns.length - sk))).take (tt - 0)))) :: cl pw 255 [(Value.iface 95 (Value.pointer (some ⟨pg, 0, none⟩))), (Value.int .i64 (po77_ : Int)), (Value.int .i64 4096), (Value.int .i64 (([] : List Int).length : Int)), (Value.slice (some ⟨bb, 0, none⟩) 135168 135168), (Value.int .i64 131072)] :: cl bb 5 (bytesV [] ++ junk78_) :: F) := cast1 (P := fun (c__ : List Value) => Holds w100_ (ro R :: cl pg 97 [V98_] :: sl 5 1 V98_ (List.length ((os ++ (pd ++ (List.drop 0 ns).take (sk - 0))) ++ ((List.drop 0 ((List.drop sk ns).take (ns.length - sk))).take (tt - 0)))) (bytesV ((os ++ (pd ++ (List.drop 0 ns).take (sk - 0))) ++ ((List.drop 0 ((List.drop sk ns).take (ns.length - sk))).take (tt - 0)))) :: cl pw 255 c__ :: cl bb 5 (bytesV [] ++ junk78_) :: F)) ((lcons rfl (lcons rfl (lcons rfl (lcons (congrArg (Value.int .i64) ((by first | rfl | omega | (simp; done) | (simp; omega)) : 0 = (([] : List Int).length : Int))) rfl)))) : [(Value.iface 95 (Value.pointer (some ⟨pg, 0, none⟩))), (Value.int .i64 (po77_ : Int)), (Value.int .i64 4096), (Value.int .i64 0), (Value.slice (some ⟨bb, 0, none⟩) 135168 135168), (Value.int .i64 131072)] = [(Value.iface 95 (Value.pointer (some ⟨pg, 0, none⟩))), (Value.int .i64 (po77_ : Int)), (Value.int .i64 4096), (Value.int .i64 (([] : List Int).length : Int)), (Value.slice (some ⟨bb, 0, none⟩) 135168 135168), (Value.int .i64 131072)]) H101_
          have H112_ : Holds w100_ (ro R :: cl pg 97 [V98_] :: sl 5 1 V98_ (List.length ((os ++ (pd ++ (List.drop 0 ns).take (sk - 0))) ++ ((List.drop 0 ((List.drop sk ns).take (ns.length - sk))).take (tt - 0)))) (bytesV ((os ++ (pd ++ (List.drop 0 ns).take (sk - 0))) ++ ((List.drop 0 ((List.drop sk ns).take (ns.length - sk))).take (tt - 0)))) :: cl pw 255 [(Value.iface 95 (Value.pointer (some ⟨pg, 0, none⟩))), (Value.int .i64 (po77_ : Int)), (Value.int .i64 4096), (Value.int .i64 (([] : List Int).length : Int)), (Value.slice (some ⟨bb, 0, none⟩) 135168 135168), (Value.int .i64 131072)] :: cl bb 5 (bytesV ([] : List Int) ++ junk78_) :: F) := cast1 (P := fun (c__ : List Value) => Holds w100_ (ro R :: cl pg 97 [V98_] :: sl 5 1 V98_ (List.length ((os ++ (pd ++ (List.drop 0 ns).take (sk - 0))) ++ ((List.drop 0 ((List.drop sk ns).take (ns.length - sk))).take (tt - 0)))) (bytesV ((os ++ (pd ++ (List.drop 0 ns).take (sk - 0))) ++ ((List.drop 0 ((List.drop sk ns).take (ns.length - sk))).take (tt - 0)))) :: cl pw 255 [(Value.iface 95 (Value.pointer (some ⟨pg, 0, none⟩))), (Value.int .i64 (po77_ : Int)), (Value.int .i64 4096), (Value.int .i64 (([] : List Int).length : Int)), (Value.slice (some ⟨bb, 0, none⟩) 135168 135168), (Value.int .i64 131072)] :: cl bb 5 c__ :: F)) ((by first | rfl | omega | (simp; done) | (simp; omega)) : bytesV [] ++ junk78_ = bytesV ([] : List Int) ++ junk78_) H111_
          have H116_ : Holds w100_ (ro R :: cl pw 255 [(Value.iface 95 (Value.pointer (some ⟨pg, 0, none⟩))), (Value.int .i64 (po77_ : Int)), (Value.int .i64 4096), (Value.int .i64 (([] : List Int).length : Int)), (Value.slice (some ⟨bb, 0, none⟩) 135168 135168), (Value.int .i64 131072)] :: cl bb 5 (bytesV ([] : List Int) ++ junk78_) :: cl pg 97 [V98_] :: sl 5 1 V98_ (List.length ((os ++ (pd ++ (List.drop 0 ns).take (sk - 0))) ++ ((List.drop 0 ((List.drop sk ns).take (ns.length - sk))).take (tt - 0)))) (bytesV ((os ++ (pd ++ (List.drop 0 ns).take (sk - 0))) ++ ((List.drop 0 ((List.drop sk ns).take (ns.length - sk))).take (tt - 0)))) :: F) := (Holds.bring (Holds.bring (Holds.bring (Holds.bring (Holds.bring H112_ 2 rfl) 2 rfl) 4 rfl) 4 rfl) 4 rfl)
          refine S_list (T_call (al := [(Value.pointer (some ⟨pw, 0, none⟩)), ((slc (slc p sk ns.length 1) tt (ns.length - sk) 1))]) (pre := [cl pw 255 [(Value.iface 95 (Value.pointer (some ⟨pg, 0, none⟩))), (Value.int .i64 (po77_ : Int)), (Value.int .i64 4096), (Value.int .i64 (([] : List Int).length : Int)), (Value.slice (some ⟨bb, 0, none⟩) 135168 135168), (Value.int .i64 131072)], cl bb 5 (bytesV ([] : List Int) ++ junk78_), cl pg 97 [V98_], sl 5 1 V98_ (List.length ((os ++ (pd ++ (List.drop 0 ns).take (sk - 0))) ++ ((List.drop 0 ((List.drop sk ns).take (ns.length - sk))).take (tt - 0)))) (bytesV ((os ++ (pd ++ (List.drop 0 ns).take (sk - 0))) ++ ((List.drop 0 ((List.drop sk ns).take (ns.length - sk))).take (tt - 0))))]) (F := F) rfl (lcons rfl (lcons (rfl : (slc (slc p sk ns.length 1) tt (ns.length - sk) 1) = ((slc (slc p sk ns.length 1) tt (ns.length - sk) 1))) rfl)) cb166 (wWriteFit R pw bb pg po77_ ([] : List Int) junk78_ V98_ ((os ++ (pd ++ (List.drop 0 ns).take (sk - 0))) ++ ((List.drop 0 ((List.drop sk ns).take (ns.length - sk))).take (tt - 0))) (slc (slc p sk ns.length 1) tt (ns.length - sk) 1) ((List.drop tt ((List.drop sk ns).take (ns.length - sk))).take ((ns.length - sk) - tt)) (RS.set_ (RS.slcB (RS.slcB hP (by omega : sk ≤ ns.length) (by omega : ns.length ≤ ns.length)) (by omega : tt ≤ (ns.length - sk)) (by omega : (ns.length - sk) ≤ (ns.length - sk))) rfl (by first | rfl | omega | (simp; done) | (simp; omega))) (by first | assumption | omega) (by simp; omega) (by simp only [List.length_append, List.length_take, List.length_drop, List.length_nil]; omega) (by simp only [List.length_append, List.length_take, List.length_drop, List.length_nil]; omega)) H116_ ?_)
          rintro v113_ p120_ w117_ ⟨junk114_, rfl, rfl, he115_⟩ S119_ H118_
          replace H118_ : Holds w117_ (ro R :: cl pw 255 [(Value.iface 95 (Value.pointer (some ⟨pg, 0, none⟩))), (Value.int .i64 (po77_ : Int)), (Value.int .i64 4096), (Value.int .i64 ((([] : List Int) ++ ((List.drop tt ((List.drop sk ns).take (ns.length - sk))).take ((ns.length - sk) - tt))).length : Int)), (Value.slice (some ⟨bb, 0, none⟩) 135168 135168), (Value.int .i64 131072)] :: cl bb 5 (bytesV (([] : List Int) ++ ((List.drop tt ((List.drop sk ns).take (ns.length - sk))).take ((ns.length - sk) - tt))) ++ junk114_) :: cl pg 97 [V98_] :: sl 5 1 V98_ (List.length ((os ++ (pd ++ (List.drop 0 ns).take (sk - 0))) ++ ((List.drop 0 ((List.drop sk ns).take (ns.length - sk))).take (tt - 0)))) (bytesV ((os ++ (pd ++ (List.drop 0 ns).take (sk - 0))) ++ ((List.drop 0 ((List.drop sk ns).take (ns.length - sk))).take (tt - 0)))) :: F) := H118_
          have S121_ := Same.trans S104_ S119_
          refine S_list (T_val (v := (Value.tuple #[(Value.int .i64 (((List.drop tt ((List.drop sk ns).take (ns.length - sk))).take ((ns.length - sk) - tt)).length : Int)), (Value.nilIface)])) (x_move rfl) ?_)
          refine S_list (T_val (v := (Value.int .i64 (((List.drop tt ((List.drop sk ns).take (ns.length - sk))).take ((ns.length - sk) - tt)).length : Int))) (by kernel_rfl) ?_)
          refine S_list (T_val (v := (Value.nilIface)) (by kernel_rfl) ?_)
          refine S_list (T_val (v := (Value.int .i64 (((List.drop tt ((List.drop sk ns).take (ns.length - sk))).take ((ns.length - sk) - tt)).length : Int))) (x_assign rfl) ?_)
          refine S_list (T_val (v := (Value.nilIface)) (x_assign rfl) ?_)
          refine wpList_nil ?_
          refine (X_then (hK109_ _ _ ?_))
          clear hK109_
          refine C_seq (fun K122_ hK122_ => ?_)
          refine C_reg ?_
          refine S_list (T_val (v := (Value.int .i64 ((sk : Int) + (((List.drop 0 ((List.drop sk ns).take (ns.length - sk))).take (tt - 0)).length : Int)))) (x_move rfl) ?_)
          refine S_list (T_val (v := (Value.int .i64 (((List.drop tt ((List.drop sk ns).take (ns.length - sk))).take ((ns.length - sk) - tt)).length : Int))) (x_move rfl) ?_)
          refine S_list (T_val (v := (Value.int .i64 (((sk : Int) + (((List.drop 0 ((List.drop sk ns).take (ns.length - sk))).take (tt - 0)).length : Int)) + (((List.drop tt ((List.drop sk ns).take (ns.length - sk))).take ((ns.length - sk) - tt)).length : Int)))) (x_bin rfl rfl (ib_add (IntWalk.i64_in _ (by omega)))) ?_)
          refine S_list (T_val (v := (Value.int .i64 (((sk : Int) + (((List.drop 0 ((List.drop sk ns).take (ns.length - sk))).take (tt - 0)).length : Int)) + (((List.drop tt ((List.drop sk ns).take (ns.length - sk))).take ((ns.length - sk) - tt)).length : Int)))) (x_assign rfl) ?_)
          refine wpList_nil ?_
          refine (X_then (hK122_ _ _ ?_))
          clear hK122_
          refine C_seq (fun K123_ hK123_ => ?_)
          refine C_reg ?_
          refine S_list (T_val (v := (Value.int .i64 (((sk : Int) + (((List.drop 0 ((List.drop sk ns).take (ns.length - sk))).take (tt - 0)).length : Int)) + (((List.drop tt ((List.drop sk ns).take (ns.length - sk))).take ((ns.length - sk) - tt)).length : Int)))) (x_move rfl) ?_)
          refine S_list (T_val (v := (Value.nilIface)) (x_move rfl) ?_)
          refine S_list (T_val (v := (Value.int .i64 (((sk : Int) + (((List.drop 0 ((List.drop sk ns).take (ns.length - sk))).take (tt - 0)).length : Int)) + (((List.drop tt ((List.drop sk ns).take (ns.length - sk))).take ((ns.length - sk) - tt)).length : Int)))) (x_assign rfl) ?_)
          refine S_list (T_val (v := (Value.nilIface)) (x_assign rfl) ?_)
          refine wpList_nil ?_
          refine (X_then (hK123_ _ _ ?_))
          clear hK123_
          refine C_ret ?_
          refine R_any (v := (Value.tuple #[(Value.int .i64 (((sk : Int) + (((List.drop 0 ((List.drop sk ns).take (ns.length - sk))).take (tt - 0)).length : Int)) + (((List.drop tt ((List.drop sk ns).take (ns.length - sk))).take ((ns.length - sk) - tt)).length : Int))), (Value.nilIface)])) (run_results2 rfl rfl rfl) ?_
          exact ⟨_, [cl pw 255 [(Value.iface 95 (Value.pointer (some ⟨pg, 0, none⟩))), (Value.int .i64 (po77_ : Int)), (Value.int .i64 4096), (Value.int .i64 ((([] : List Int) ++ ((List.drop tt ((List.drop sk ns).take (ns.length - sk))).take ((ns.length - sk) - tt))).length : Int)), (Value.slice (some ⟨bb, 0, none⟩) 135168 135168), (Value.int .i64 131072)], cl bb 5 (bytesV (([] : List Int) ++ ((List.drop tt ((List.drop sk ns).take (ns.length - sk))).take ((ns.length - sk) - tt))) ++ junk114_), cl pg 97 [V98_], sl 5 1 V98_ (List.length ((os ++ (pd ++ (List.drop 0 ns).take (sk - 0))) ++ ((List.drop 0 ((List.drop sk ns).take (ns.length - sk))).take (tt - 0)))) (bytesV ((os ++ (pd ++ (List.drop 0 ns).take (sk - 0))) ++ ((List.drop 0 ((List.drop sk ns).take (ns.length - sk))).take (tt - 0))))], rfl, ⟨((sk : Int) + (((List.drop 0 ((List.drop sk ns).take (ns.length - sk))).take (tt - 0)).length : Int)) + (((List.drop tt ((List.drop sk ns).take (ns.length - sk))).take ((ns.length - sk) - tt)).length : Int), po77_, (([] : List Int) ++ ((List.drop tt ((List.drop sk ns).take (ns.length - sk))).take ((ns.length - sk) - tt))), junk114_, V98_, ((os ++ (pd ++ (List.drop 0 ns).take (sk - 0))) ++ ((List.drop 0 ((List.drop sk ns).take (ns.length - sk))).take (tt - 0))), rfl, rfl, (by first | assumption | omega | exact rfl), (by first | assumption | (simp only [List.nil_append] at *; assumption)), (by simp only [List.nil_append, List.append_assoc, List.drop_zero, Nat.sub_zero, tk_all, tk_all2, List.take_append_drop]), (by simp only [List.nil_append, List.length_take, List.length_drop]; omega)⟩, S121_, H118_⟩
        · have c91_fp : ¬ (4096 < ((ns.length - sk : Nat) : Int)) := of_decide_eq_false c91_f
          refine C_skip (X_then (hK89_ _ _ ?_))
          clear hK89_
          refine C_seq (fun K124_ hK124_ => ?_)
          refine C_reg ?_
          refine S_list (T_val (v := (Value.pointer (some ⟨pw, 0, none⟩))) (x_move rfl) ?_)
          refine S_list (T_val (v := (slc p sk ns.length 1)) (x_move rfl) ?_)
          have hl125_ := RS.blen (RS.slcB hP (by omega : sk ≤ ns.length) (by omega : ns.length ≤ ns.length))
          have H126_ : Holds w82_ (ro R :: cl pw 255 [(Value.iface 95 (Value.pointer (some ⟨pg, 0, none⟩))), (Value.int .i64 (po77_ : Int)), (Value.int .i64 4096), (Value.int .i64 (([] : List Int).length : Int)), (Value.slice (some ⟨bb, 0, none⟩) 135168 135168), (Value.int .i64 131072)] :: cl bb 5 (bytesV [] ++ junk78_) :: cl pg 97 [V79_] :: sl 5 1 V79_ (List.length (os ++ (pd ++ (List.drop 0 ns).take (sk - 0)))) (bytesV (os ++ (pd ++ (List.drop 0 ns).take (sk - 0)))) :: F) := cast1 (P := fun (c__ : List Value) => Holds w82_ (ro R :: cl pw 255 c__ :: cl bb 5 (bytesV [] ++ junk78_) :: cl pg 97 [V79_] :: sl 5 1 V79_ (List.length (os ++ (pd ++ (List.drop 0 ns).take (sk - 0)))) (bytesV (os ++ (pd ++ (List.drop 0 ns).take (sk - 0)))) :: F)) ((lcons rfl (lcons rfl (lcons rfl (lcons (congrArg (Value.int .i64) ((by first | rfl | omega | (simp; done) | (simp; omega)) : 0 = (([] : List Int).length : Int))) rfl)))) : [(Value.iface 95 (Value.pointer (some ⟨pg, 0, none⟩))), (Value.int .i64 (po77_ : Int)), (Value.int .i64 4096), (Value.int .i64 0), (Value.slice (some ⟨bb, 0, none⟩) 135168 135168), (Value.int .i64 131072)] = [(Value.iface 95 (Value.pointer (some ⟨pg, 0, none⟩))), (Value.int .i64 (po77_ : Int)), (Value.int .i64 4096), (Value.int .i64 (([] : List Int).length : Int)), (Value.slice (some ⟨bb, 0, none⟩) 135168 135168), (Value.int .i64 131072)]) H83_
          have H127_ : Holds w82_ (ro R :: cl pw 255 [(Value.iface 95 (Value.pointer (some ⟨pg, 0, none⟩))), (Value.int .i64 (po77_ : Int)), (Value.int .i64 4096), (Value.int .i64 (([] : List Int).length : Int)), (Value.slice (some ⟨bb, 0, none⟩) 135168 135168), (Value.int .i64 131072)] :: cl bb 5 (bytesV ([] : List Int) ++ junk78_) :: cl pg 97 [V79_] :: sl 5 1 V79_ (List.length (os ++ (pd ++ (List.drop 0 ns).take (sk - 0)))) (bytesV (os ++ (pd ++ (List.drop 0 ns).take (sk - 0)))) :: F) := cast1 (P := fun (c__ : List Value) => Holds w82_ (ro R :: cl pw 255 [(Value.iface 95 (Value.pointer (some ⟨pg, 0, none⟩))), (Value.int .i64 (po77_ : Int)), (Value.int .i64 4096), (Value.int .i64 (([] : List Int).length : Int)), (Value.slice (some ⟨bb, 0, none⟩) 135168 135168), (Value.int .i64 131072)] :: cl bb 5 c__ :: cl pg 97 [V79_] :: sl 5 1 V79_ (List.length (os ++ (pd ++ (List.drop 0 ns).take (sk - 0)))) (bytesV (os ++ (pd ++ (List.drop 0 ns).take (sk - 0)))) :: F)) ((by first | rfl | omega | (simp; done) | (simp; omega)) : bytesV [] ++ junk78_ = bytesV ([] : List Int) ++ junk78_) H126_
          refine S_list (T_call (al := [(Value.pointer (some ⟨pw, 0, none⟩)), ((slc p sk ns.length 1))]) (pre := [cl pw 255 [(Value.iface 95 (Value.pointer (some ⟨pg, 0, none⟩))), (Value.int .i64 (po77_ : Int)), (Value.int .i64 4096), (Value.int .i64 (([] : List Int).length : Int)), (Value.slice (some ⟨bb, 0, none⟩) 135168 135168), (Value.int .i64 131072)], cl bb 5 (bytesV ([] : List Int) ++ junk78_), cl pg 97 [V79_], sl 5 1 V79_ (List.length (os ++ (pd ++ (List.drop 0 ns).take (sk - 0)))) (bytesV (os ++ (pd ++ (List.drop 0 ns).take (sk - 0))))]) (F := F) rfl (lcons rfl (lcons (rfl : (slc p sk ns.length 1) = ((slc p sk ns.length 1))) rfl)) cb166 (wWriteFit R pw bb pg po77_ ([] : List Int) junk78_ V79_ (os ++ (pd ++ (List.drop 0 ns).take (sk - 0))) (slc p sk ns.length 1) ((List.drop sk ns).take (ns.length - sk)) (RS.set_ (RS.slcB hP (by omega : sk ≤ ns.length) (by omega : ns.length ≤ ns.length)) rfl (by first | rfl | omega | (simp; done) | (simp; omega))) (by first | assumption | omega) (by simp; omega) (by simp only [List.length_append, List.length_take, List.length_drop, List.length_nil]; omega) (by simp only [List.length_append, List.length_take, List.length_drop, List.length_nil]; omega)) H127_ ?_)
          rintro v128_ p134_ w131_ ⟨junk129_, rfl, rfl, he130_⟩ S133_ H132_
          replace H132_ : Holds w131_ (ro R :: cl pw 255 [(Value.iface 95 (Value.pointer (some ⟨pg, 0, none⟩))), (Value.int .i64 (po77_ : Int)), (Value.int .i64 4096), (Value.int .i64 ((([] : List Int) ++ ((List.drop sk ns).take (ns.length - sk))).length : Int)), (Value.slice (some ⟨bb, 0, none⟩) 135168 135168), (Value.int .i64 131072)] :: cl bb 5 (bytesV (([] : List Int) ++ ((List.drop sk ns).take (ns.length - sk))) ++ junk129_) :: cl pg 97 [V79_] :: sl 5 1 V79_ (List.length (os ++ (pd ++ (List.drop 0 ns).take (sk - 0)))) (bytesV (os ++ (pd ++ (List.drop 0 ns).take (sk - 0)))) :: F) := H132_
          have S135_ := Same.trans S86_ S133_
          refine S_list (T_val (v := (Value.tuple #[(Value.int .i64 (((List.drop sk ns).take (ns.length - sk)).length : Int)), (Value.nilIface)])) (x_move rfl) ?_)
          refine S_list (T_val (v := (Value.int .i64 (((List.drop sk ns).take (ns.length - sk)).length : Int))) (by kernel_rfl) ?_)
          refine S_list (T_val (v := (Value.nilIface)) (by kernel_rfl) ?_)
          refine S_list (T_val (v := (Value.int .i64 (((List.drop sk ns).take (ns.length - sk)).length : Int))) (x_assign rfl) ?_)
          refine S_list (T_val (v := (Value.nilIface)) (x_assign rfl) ?_)
          refine wpList_nil ?_
          refine (X_then (hK124_ _ _ ?_))
          clear hK124_
          refine C_seq (fun K136_ hK136_ => ?_)
          refine C_reg ?_
          refine S_list (T_val (v := (Value.int .i64 (sk : Int))) (x_move rfl) ?_)
          refine S_list (T_val (v := (Value.int .i64 (((List.drop sk ns).take (ns.length - sk)).length : Int))) (x_move rfl) ?_)
          refine S_list (T_val (v := (Value.int .i64 ((sk : Int) + (((List.drop sk ns).take (ns.length - sk)).length : Int)))) (x_bin rfl rfl (ib_add (IntWalk.i64_in _ (by omega)))) ?_)
          refine S_list (T_val (v := (Value.int .i64 ((sk : Int) + (((List.drop sk ns).take (ns.length - sk)).length : Int)))) (x_assign rfl) ?_)
          refine wpList_nil ?_
          refine (X_then (hK136_ _ _ ?_))
          clear hK136_
          refine C_seq (fun K137_ hK137_ => ?_)
          refine C_reg ?_
          refine S_list (T_val (v := (Value.int .i64 ((sk : Int) + (((List.drop sk ns).take (ns.length - sk)).length : Int)))) (x_move rfl) ?_)
          refine S_list (T_val (v := (Value.nilIface)) (x_move rfl) ?_)
          refine S_list (T_val (v := (Value.int .i64 ((sk : Int) + (((List.drop sk ns).take (ns.length - sk)).length : Int)))) (x_assign rfl) ?_)
          refine S_list (T_val (v := (Value.nilIface)) (x_assign rfl) ?_)
          refine wpList_nil ?_
          refine (X_then (hK137_ _ _ ?_))
          clear hK137_
          refine C_ret ?_
          refine R_any (v := (Value.tuple #[(Value.int .i64 ((sk : Int) + (((List.drop sk ns).take (ns.length - sk)).length : Int))), (Value.nilIface)])) (run_results2 rfl rfl rfl) ?_
          exact ⟨_, [cl pw 255 [(Value.iface 95 (Value.pointer (some ⟨pg, 0, none⟩))), (Value.int .i64 (po77_ : Int)), (Value.int .i64 4096), (Value.int .i64 ((([] : List Int) ++ ((List.drop sk ns).take (ns.length - sk))).length : Int)), (Value.slice (some ⟨bb, 0, none⟩) 135168 135168), (Value.int .i64 131072)], cl bb 5 (bytesV (([] : List Int) ++ ((List.drop sk ns).take (ns.length - sk))) ++ junk129_), cl pg 97 [V79_], sl 5 1 V79_ (List.length (os ++ (pd ++ (List.drop 0 ns).take (sk - 0)))) (bytesV (os ++ (pd ++ (List.drop 0 ns).take (sk - 0))))], rfl, ⟨(sk : Int) + (((List.drop sk ns).take (ns.length - sk)).length : Int), po77_, (([] : List Int) ++ ((List.drop sk ns).take (ns.length - sk))), junk129_, V79_, (os ++ (pd ++ (List.drop 0 ns).take (sk - 0))), rfl, rfl, (by first | assumption | omega | exact rfl), (by first | assumption | (simp only [List.nil_append] at *; assumption)), (by simp only [List.nil_append, List.append_assoc, List.drop_zero, Nat.sub_zero, tk_all, tk_all2, List.take_append_drop]), (by simp only [List.nil_append, List.length_take, List.length_drop]; omega)⟩, S135_, H132_⟩
    · have c28_fp : ¬ ((sk : Int) ≠ 4096) := of_decide_eq_false c28_f
      refine C_skip (X_then (hK26_ _ _ ?_))
      clear hK26_
      refine C_seq (fun K138_ hK138_ => ?_)
      refine C_seq (fun K139_ hK139_ => ?_)
      refine C_reg ?_
      refine S_list (T_val (v := (Value.pointer (some ⟨pw, 0, none⟩))) (x_move rfl) ?_)
      refine S_list (T_callW (al := [(Value.pointer (some ⟨pw, 0, none⟩))]) rfl rfl cb104 (Calls.into (n := 11) (al := [(Value.pointer (some ⟨pw, 0, none⟩))]) Try.func104 rfl Try.ntmps104 rfl rfl ?_))
      refine C_seq (fun K140_ hK140_ => ?_)
      refine C_reg ?_
      refine S_list (T_val (v := (Value.nilIface)) (x_assign rfl) ?_)
      refine wpList_nil ?_
      refine (X_then (hK140_ _ _ ?_))
      clear hK140_
      refine C_seq (fun K141_ hK141_ => ?_)
      refine C_reg ?_
      refine S_list (T_val (v := (Value.pointer (some ⟨pw, 0, none⟩))) (x_move rfl) ?_)
      refine S_list (T_call (al := [(Value.pointer (some ⟨pw, 0, none⟩))]) (pre := [cl pw 255 [(Value.iface 95 (Value.pointer (some ⟨pg, 0, none⟩))), (Value.int .i64 (po : Int)), (Value.int .i64 4096), (Value.int .i64 (pd.length : Int)), (Value.slice (some ⟨bb, 0, none⟩) 135168 135168), (Value.int .i64 131072)], cl bb 5 (bytesV pd ++ junk), cl pg 97 [V], sl 5 1 V (List.length os) (bytesV os)]) (F := F) rfl rfl cb115 (wFlush R pw bb pg po pd junk V os (by first | assumption | omega) (by first | assumption | omega) (by first | assumption | omega)) H24_ ?_)
      rintro v142_ p152_ w149_ ⟨nn143_, po144_, junk145_, V146_, rfl, rfl, he147_, he148_⟩ S151_ H150_
      replace H150_ : Holds w149_ (ro R :: cl pw 255 [(Value.iface 95 (Value.pointer (some ⟨pg, 0, none⟩))), (Value.int .i64 (po144_ : Int)), (Value.int .i64 4096), (Value.int .i64 0), (Value.slice (some ⟨bb, 0, none⟩) 135168 135168), (Value.int .i64 131072)] :: cl bb 5 (bytesV [] ++ junk145_) :: cl pg 97 [V146_] :: sl 5 1 V146_ (List.length (os ++ pd)) (bytesV (os ++ pd)) :: F) := H150_
      have S153_ := Same.trans (Same.trans (Same.trans (Same.refl w) (Same.drew _)) (Same.drew _)) S151_
      refine S_list (T_val (v := (Value.tuple #[(Value.int .i64 nn143_), (Value.nilIface)])) (x_move rfl) ?_)
      refine S_list (T_val (v := (Value.int .i64 nn143_)) (by kernel_rfl) ?_)
      refine S_list (T_val (v := (Value.nilIface)) (by kernel_rfl) ?_)
      refine S_list (T_val (v := (Value.int .i64 nn143_)) (x_assign rfl) ?_)
      refine S_list (T_val (v := (Value.nilIface)) (x_assign rfl) ?_)
      refine wpList_nil ?_
      refine (X_then (hK141_ _ _ ?_))
      clear hK141_
      refine C_seq (fun K154_ hK154_ => ?_)
      refine C_reg ?_
      refine S_list (T_val (v := (Value.nilIface)) (x_move rfl) ?_)
      refine S_list (T_val (v := (Value.nilIface)) (x_assign rfl) ?_)
      refine wpList_nil ?_
      refine (X_then (hK154_ _ _ ?_))
      clear hK154_
      refine C_ret ?_
      refine R_any (v := (Value.nilIface)) (run_results1 rfl rfl) ⟨_, rfl, ?_⟩
      refine S_list (T_val (v := (Value.nilIface)) (x_assign rfl) ?_)
      refine wpList_nil ?_
      refine (X_then (hK139_ _ _ ?_))
      clear hK139_
      refine C_seq (fun K155_ hK155_ => ?_)
      refine C_reg ?_
      refine S_list (T_val (v := (Value.nilIface)) (x_move rfl) ?_)
      refine S_list (T_val (v := (Value.bool false)) (by kernel_rfl) ?_)
      refine wpList_nil ?_
      refine (X_then (hK155_ _ _ ?_))
      clear hK155_
      refine C_condF rfl ?_
      refine C_skip (X_then (hK138_ _ _ ?_))
      clear hK138_
      refine C_seq (fun K156_ hK156_ => ?_)
      refine C_seq (fun K157_ hK157_ => ?_)
      refine C_reg ?_
      refine S_list (T_val (v := p) (x_move rfl) ?_)
      refine S_list (T_val (v := (Value.int .i64 (ns.length : Int))) (x_lenRS rfl hP Try.underlying43) ?_)
      refine S_list (T_val (v := (Value.pointer (some ⟨pw, 0, none⟩))) (x_move rfl) ?_)
      refine S_list (T_val (v := (Value.pointer (some ⟨pw, 0, none⟩))) (by kernel_rfl) ?_)
      refine S_list (T_val (v := (Value.pointer (some ⟨pw, 2, none⟩))) (by kernel_rfl) ?_)
      refine S_list (T_val (v := (Value.int .i64 4096)) (x_load1 rfl Try.underlying3 rfl ((Holds.rd H150_ 1 rfl) 2 (Value.int .i64 4096) rfl)) ?_)
      refine S_list (T_val (v := (Value.bool (decide (4096 < (ns.length : Int))))) (x_bin rfl rfl rfl) ?_)
      refine wpList_nil ?_
      refine (X_then (hK157_ _ _ ?_))
      clear hK157_
      refine C_cond (b := decide (4096 < (ns.length : Int))) rfl (fun c158_t => ?_) (fun c158_f => ?_)
      · have c158_tp : 4096 < (ns.length : Int) := of_decide_eq_true c158_t
        refine C_seq (fun K159_ hK159_ => ?_)
        refine C_reg ?_
        refine S_list (T_val (v := p) (x_move rfl) ?_)
        refine S_list (T_val (v := (Value.int .i64 (ns.length : Int))) (x_lenRS rfl hP Try.underlying43) ?_)
        refine S_list (T_val (v := (Value.pointer (some ⟨pw, 0, none⟩))) (x_move rfl) ?_)
        refine S_list (T_val (v := (Value.pointer (some ⟨pw, 0, none⟩))) (by kernel_rfl) ?_)
        refine S_list (T_val (v := (Value.pointer (some ⟨pw, 2, none⟩))) (by kernel_rfl) ?_)
        refine S_list (T_val (v := (Value.int .i64 4096)) (x_load1 rfl Try.underlying3 rfl ((Holds.rd H150_ 1 rfl) 2 (Value.int .i64 4096) rfl)) ?_)
        obtain ⟨q, hq⟩ : ∃ q, ns.length / 4096 = q := ⟨_, rfl⟩
        obtain ⟨tt, htt⟩ : ∃ t, q * 4096 = t := ⟨_, rfl⟩
        refine S_list (T_val (v := (Value.int .i64 (q : Int))) (x_bin rfl rfl (ib_quoN (x := ns.length) (y := 4096) (r := q) (by omega) (by omega) (by omega) (by omega) hq)) ?_)
        refine S_list (T_val (v := (Value.int .i64 (q : Int))) (x_assign rfl) ?_)
        refine wpList_nil ?_
        refine (X_then (hK159_ _ _ ?_))
        clear hK159_
        refine C_seq (fun K160_ hK160_ => ?_)
        refine A_start (S := fun w => Rd pw [(Value.iface 95 (Value.pointer (some ⟨pg, 0, none⟩))), (Value.int .i64 (po144_ : Int)), (Value.int .i64 4096), (Value.int .i64 0), (Value.slice (some ⟨bb, 0, none⟩) 135168 135168), (Value.int .i64 131072)] w ∧ Sub R (hp w)) (N := 20) foll rfl rfl ?_
        have H161_ : Holds w149_.drew (ro R :: cl pw 255 [(Value.iface 95 (Value.pointer (some ⟨pg, 0, none⟩))), (Value.int .i64 (po144_ : Int)), (Value.int .i64 4096), (Value.int .i64 0), (Value.slice (some ⟨bb, 0, none⟩) 135168 135168), (Value.int .i64 131072)] :: cl bb 5 (bytesV [] ++ junk145_) :: cl pg 97 [V146_] :: sl 5 1 V146_ (List.length (os ++ pd)) (bytesV (os ++ pd)) :: F) := H150_
        have hq162_ := And.intro (Holds.rd H161_ 1 rfl) ((Holds.ro_at H161_ 0 rfl))
        refine A_tk 0 (v := (Value.pointer (some ⟨pw, 0, none⟩))) rfl (by kernel_rfl) (fun w hS => x_move rfl) hq162_ ?_
        refine A_tk 1 (v := (Value.pointer (some ⟨pw, 0, none⟩))) rfl (by kernel_rfl) (fun w hS => by kernel_rfl) hq162_ ?_
        refine A_tk 2 (v := (Value.pointer (some ⟨pw, 0, none⟩))) rfl (by kernel_rfl) (fun w hS => by kernel_rfl) hq162_ ?_
        refine A_tk 3 (v := (Value.iface 95 (Value.pointer (some ⟨pg, 0, none⟩)))) rfl (by kernel_rfl) (fun w hS => x_load1 rfl Try.underlying168 rfl (hS.1 0 (Value.iface 95 (Value.pointer (some ⟨pg, 0, none⟩))) rfl)) hq162_ ?_
        refine A_tk 4 (v := p) rfl (by kernel_rfl) (fun w hS => x_move rfl) hq162_ ?_
        refine A_tk 5 (v := (Value.int .i64 (q : Int))) rfl (by kernel_rfl) (fun w hS => x_move rfl) hq162_ ?_
        refine A_tk 6 (v := (Value.pointer (some ⟨pw, 0, none⟩))) rfl (by kernel_rfl) (fun w hS => x_move rfl) hq162_ ?_
        refine A_tk 7 (v := (Value.pointer (some ⟨pw, 0, none⟩))) rfl (by kernel_rfl) (fun w hS => by kernel_rfl) hq162_ ?_
        refine A_tk 8 (v := (Value.pointer (some ⟨pw, 2, none⟩))) rfl (by kernel_rfl) (fun w hS => by kernel_rfl) hq162_ ?_
        refine A_tk 9 (v := (Value.int .i64 4096)) rfl (by kernel_rfl) (fun w hS => x_load1 rfl Try.underlying3 rfl (hS.1 2 (Value.int .i64 4096) rfl)) hq162_ ?_
        refine A_tk 10 (v := (Value.int .i64 (tt : Int))) rfl (by kernel_rfl) (fun w hS => x_bin rfl rfl (ib_mulN (x := q) (y := 4096) (r := tt) rfl rfl htt (by omega))) hq162_ ?_
        refine A_tk 11 (v := (slc p 0 tt 1)) rfl (by kernel_rfl) (fun w hS => x_sliceRS (l := 0) (h := tt) rfl hP Try.underlying43 z5 (by omega) ⟨_, _, rfl, by omega, by omega, by omega⟩ rfl) hq162_ ?_
        refine A_tk 12 (v := (Value.iface 95 (Value.pointer (some ⟨pg, 0, none⟩)))) rfl (by kernel_rfl) (fun w hS => by kernel_rfl) hq162_ ?_
        refine A_tk 13 (v := (Value.iface 95 (Value.pointer (some ⟨pg, 0, none⟩)))) rfl (by kernel_rfl) (fun w hS => x_move rfl) hq162_ ?_
        refine A_ready (i := 14) (rs := []) (by kernel_rfl) ?_
        refine AllR.cons ?_ AllR.nil
        have hl163_ := RS.blen (RS.slcB hP (by omega : 0 ≤ tt) (by omega : tt ≤ ns.length))
        have H166_ : Holds w149_.drew (ro R :: cl pg 97 [V146_] :: sl 5 1 V146_ (List.length (os ++ pd)) (bytesV (os ++ pd)) :: cl pw 255 [(Value.iface 95 (Value.pointer (some ⟨pg, 0, none⟩))), (Value.int .i64 (po144_ : Int)), (Value.int .i64 4096), (Value.int .i64 0), (Value.slice (some ⟨bb, 0, none⟩) 135168 135168), (Value.int .i64 131072)] :: cl bb 5 (bytesV [] ++ junk145_) :: F) := (Holds.bring (Holds.bring (Holds.bring H161_ 4 rfl) 4 rfl) 2 rfl)
        refine A_op (ls' := #[true, true, true, true, true, true, true, true, true, true, true, true, true, true, true, false, false, false, false, false]) rfl (by kernel_rfl) (T_invoke (al := [(Value.pointer (some ⟨pg, 0, none⟩)), ((slc p 0 tt 1))]) (pre := [cl pg 97 [V146_], sl 5 1 V146_ (List.length (os ++ pd)) (bytesV (os ++ pd))]) (F := cl pw 255 [(Value.iface 95 (Value.pointer (some ⟨pg, 0, none⟩))), (Value.int .i64 (po144_ : Int)), (Value.int .i64 4096), (Value.int .i64 0), (Value.slice (some ⟨bb, 0, none⟩) 135168 135168), (Value.int .i64 131072)] :: cl bb 5 (bytesV [] ++ junk145_) :: F) rfl (fun w => by kernel_rfl) (lcons rfl (lcons (rfl : (slc p 0 tt 1) = ((slc p 0 tt 1))) rfl)) cb152 (wPage R pg (slc p 0 tt 1) V146_ (os ++ pd) ((List.drop 0 ns).take (tt - 0)) (RS.set_ (RS.slcB hP (by omega : 0 ≤ tt) (by omega : tt ≤ ns.length)) rfl (by first | rfl | omega | (simp; done) | (simp; omega))) (by simp only [List.length_append, List.length_take, List.length_drop]; omega) (by simp only [List.length_append, List.length_take, List.length_drop]; omega)) H166_ ?_)
        rintro v164_ p170_ w167_ ⟨V165_, rfl, rfl⟩ S169_ H168_
        replace H168_ : Holds w167_ (ro R :: cl pg 97 [V165_] :: sl 5 1 V165_ (List.length ((os ++ pd) ++ ((List.drop 0 ns).take (tt - 0)))) (bytesV ((os ++ pd) ++ ((List.drop 0 ns).take (tt - 0)))) :: cl pw 255 [(Value.iface 95 (Value.pointer (some ⟨pg, 0, none⟩))), (Value.int .i64 (po144_ : Int)), (Value.int .i64 4096), (Value.int .i64 0), (Value.slice (some ⟨bb, 0, none⟩) 135168 135168), (Value.int .i64 131072)] :: cl bb 5 (bytesV [] ++ junk145_) :: F) := H168_
        have S171_ := Same.trans (Same.trans S153_ (Same.drew _)) S169_
        refine ⟨⟨Holds.rd H168_ 3 rfl, (Holds.ro_at H168_ 0 rfl)⟩, ?_⟩
        have hq172_ := And.intro (Holds.rd H168_ 3 rfl) ((Holds.ro_at H168_ 0 rfl))
        refine A_tk 15 (v := (Value.tuple #[(Value.int .i64 (((List.drop 0 ns).take (tt - 0)).length : Int)), (Value.nilIface)])) rfl (by kernel_rfl) (fun w hS => x_move rfl) hq172_ ?_
        refine A_tk 16 (v := (Value.int .i64 (((List.drop 0 ns).take (tt - 0)).length : Int))) rfl (by kernel_rfl) (fun w hS => by kernel_rfl) hq172_ ?_
        refine A_tk 17 (v := (Value.nilIface)) rfl (by kernel_rfl) (fun w hS => by kernel_rfl) hq172_ ?_
        refine A_tk 18 (v := (Value.int .i64 (((List.drop 0 ns).take (tt - 0)).length : Int))) rfl (by kernel_rfl) (fun w hS => x_assign rfl) hq172_ ?_
        refine A_tk 19 (v := (Value.nilIface)) rfl (by kernel_rfl) (fun w hS => x_assign rfl) hq172_ ?_
        refine A_done (by kernel_rfl) ?_
        refine (X_then (hK160_ _ _ ?_))
        clear hK160_
        refine C_seq (fun K173_ hK173_ => ?_)
        refine C_reg ?_
        refine S_list (T_val (v := (Value.int .i64 0)) (x_move rfl) ?_)
        refine S_list (T_val (v := (Value.int .i64 (((List.drop 0 ns).take (tt - 0)).length : Int))) (x_move rfl) ?_)
        refine S_list (T_val (v := (Value.int .i64 (0 + (((List.drop 0 ns).take (tt - 0)).length : Int)))) (x_bin rfl rfl (ib_add (IntWalk.i64_in _ (by omega)))) ?_)
        refine S_list (T_val (v := (Value.int .i64 (0 + (((List.drop 0 ns).take (tt - 0)).length : Int)))) (x_assign rfl) ?_)
        refine wpList_nil ?_
        refine (X_then (hK173_ _ _ ?_))
        clear hK173_
        refine C_seq (fun K174_ hK174_ => ?_)
        refine C_seq (fun K175_ hK175_ => ?_)
        refine C_reg ?_
        refine S_list (T_val (v := (Value.nilIface)) (x_move rfl) ?_)
        refine S_list (T_val (v := (Value.bool false)) (by kernel_rfl) ?_)
        refine wpList_nil ?_
        refine (X_then (hK175_ _ _ ?_))
        clear hK175_
        refine C_condF rfl ?_
        refine C_skip (X_then (hK174_ _ _ ?_))
        clear hK174_
        refine C_reg ?_
        refine S_list (T_val (v := p) (x_move rfl) ?_)
        refine S_list (T_val (v := (Value.int .i64 (q : Int))) (x_move rfl) ?_)
        refine S_list (T_val (v := (Value.pointer (some ⟨pw, 0, none⟩))) (x_move rfl) ?_)
        refine S_list (T_val (v := (Value.pointer (some ⟨pw, 0, none⟩))) (by kernel_rfl) ?_)
        refine S_list (T_val (v := (Value.pointer (some ⟨pw, 2, none⟩))) (by kernel_rfl) ?_)
        refine S_list (T_val (v := (Value.int .i64 4096)) (x_load1 rfl Try.underlying3 rfl ((Holds.rd H168_ 3 rfl) 2 (Value.int .i64 4096) rfl)) ?_)
        refine S_list (T_val (v := (Value.int .i64 (tt : Int))) (x_bin rfl rfl (ib_mulN (x := q) (y := 4096) (r := tt) rfl rfl htt (by omega))) ?_)
        refine S_list (T_val (v := (slc p tt ns.length 1)) (x_sliceRS (l := tt) (h := ns.length) rfl hP Try.underlying43 z5 (by omega) rfl ⟨_, _, rfl, by omega, by omega, by omega⟩) ?_)
        refine S_list (T_val (v := (slc p tt ns.length 1)) (x_assign rfl) ?_)
        refine wpList_nil ?_
        refine (X_then (hK156_ _ _ ?_))
        clear hK156_
        refine C_seq (fun K176_ hK176_ => ?_)
        refine C_reg ?_
        refine S_list (T_val (v := (Value.pointer (some ⟨pw, 0, none⟩))) (x_move rfl) ?_)
        refine S_list (T_val (v := (slc p tt ns.length 1)) (x_move rfl) ?_)
        have hl177_ := RS.blen (RS.slcB hP (by omega : tt ≤ ns.length) (by omega : ns.length ≤ ns.length))
        have H178_ : Holds w167_ (ro R :: cl pg 97 [V165_] :: sl 5 1 V165_ (List.length ((os ++ pd) ++ ((List.drop 0 ns).take (tt - 0)))) (bytesV ((os ++ pd) ++ ((List.drop 0 ns).take (tt - 0)))) :: cl pw 255 [(Value.iface 95 (Value.pointer (some ⟨pg, 0, none⟩))), (Value.int .i64 (po144_ : Int)), (Value.int .i64 4096), (Value.int .i64 (([] : List Int).length : Int)), (Value.slice (some ⟨bb, 0, none⟩) 135168 135168), (Value.int .i64 131072)] :: cl bb 5 (bytesV [] ++ junk145_) :: F) := cast1 (P := fun (c__ : List Value) => Holds w167_ (ro R :: cl pg 97 [V165_] :: sl 5 1 V165_ (List.length ((os ++ pd) ++ ((List.drop 0 ns).take (tt - 0)))) (bytesV ((os ++ pd) ++ ((List.drop 0 ns).take (tt - 0)))) :: cl pw 255 c__ :: cl bb 5 (bytesV [] ++ junk145_) :: F)) ((lcons rfl (lcons rfl (lcons rfl (lcons (congrArg (Value.int .i64) ((by first | rfl | omega | (simp; done) | (simp; omega)) : 0 = (([] : List Int).length : Int))) rfl)))) : [(Value.iface 95 (Value.pointer (some ⟨pg, 0, none⟩))), (Value.int .i64 (po144_ : Int)), (Value.int .i64 4096), (Value.int .i64 0), (Value.slice (some ⟨bb, 0, none⟩) 135168 135168), (Value.int .i64 131072)] = [(Value.iface 95 (Value.pointer (some ⟨pg, 0, none⟩))), (Value.int .i64 (po144_ : Int)), (Value.int .i64 4096), (Value.int .i64 (([] : List Int).length : Int)), (Value.slice (some ⟨bb, 0, none⟩) 135168 135168), (Value.int .i64 131072)]) H168_
        have H179_ : Holds w167_ (ro R :: cl pg 97 [V165_] :: sl 5 1 V165_ (List.length ((os ++ pd) ++ ((List.drop 0 ns).take (tt - 0)))) (bytesV ((os ++ pd) ++ ((List.drop 0 ns).take (tt - 0)))) :: cl pw 255 [(Value.iface 95 (Value.pointer (some ⟨pg, 0, none⟩))), (Value.int .i64 (po144_ : Int)), (Value.int .i64 4096), (Value.int .i64 (([] : List Int).length : Int)), (Value.slice (some ⟨bb, 0, none⟩) 135168 135168), (Value.int .i64 131072)] :: cl bb 5 (bytesV ([] : List Int) ++ junk145_) :: F) := cast1 (P := fun (c__ : List Value) => Holds w167_ (ro R :: cl pg 97 [V165_] :: sl 5 1 V165_ (List.length ((os ++ pd) ++ ((List.drop 0 ns).take (tt - 0)))) (bytesV ((os ++ pd) ++ ((List.drop 0 ns).take (tt - 0)))) :: cl pw 255 [(Value.iface 95 (Value.pointer (some ⟨pg, 0, none⟩))), (Value.int .i64 (po144_ : Int)), (Value.int .i64 4096), (Value.int .i64 (([] : List Int).length : Int)), (Value.slice (some ⟨bb, 0, none⟩) 135168 135168), (Value.int .i64 131072)] :: cl bb 5 c__ :: F)) ((by first | rfl | omega | (simp; done) | (simp; omega)) : bytesV [] ++ junk145_ = bytesV ([] : List Int) ++ junk145_) H178_
        have H183_ : Holds w167_ (ro R :: cl pw 255 [(Value.iface 95 (Value.pointer (some ⟨pg, 0, none⟩))), (Value.int .i64 (po144_ : Int)), (Value.int .i64 4096), (Value.int .i64 (([] : List Int).length : Int)), (Value.slice (some ⟨bb, 0, none⟩) 135168 135168), (Value.int .i64 131072)] :: cl bb 5 (bytesV ([] : List Int) ++ junk145_) :: cl pg 97 [V165_] :: sl 5 1 V165_ (List.length ((os ++ pd) ++ ((List.drop 0 ns).take (tt - 0)))) (bytesV ((os ++ pd) ++ ((List.drop 0 ns).take (tt - 0)))) :: F) := (Holds.bring (Holds.bring (Holds.bring (Holds.bring (Holds.bring H179_ 2 rfl) 2 rfl) 4 rfl) 4 rfl) 4 rfl)
        refine S_list (T_call (al := [(Value.pointer (some ⟨pw, 0, none⟩)), ((slc p tt ns.length 1))]) (pre := [cl pw 255 [(Value.iface 95 (Value.pointer (some ⟨pg, 0, none⟩))), (Value.int .i64 (po144_ : Int)), (Value.int .i64 4096), (Value.int .i64 (([] : List Int).length : Int)), (Value.slice (some ⟨bb, 0, none⟩) 135168 135168), (Value.int .i64 131072)], cl bb 5 (bytesV ([] : List Int) ++ junk145_), cl pg 97 [V165_], sl 5 1 V165_ (List.length ((os ++ pd) ++ ((List.drop 0 ns).take (tt - 0)))) (bytesV ((os ++ pd) ++ ((List.drop 0 ns).take (tt - 0))))]) (F := F) rfl (lcons rfl (lcons (rfl : (slc p tt ns.length 1) = ((slc p tt ns.length 1))) rfl)) cb166 (wWriteFit R pw bb pg po144_ ([] : List Int) junk145_ V165_ ((os ++ pd) ++ ((List.drop 0 ns).take (tt - 0))) (slc p tt ns.length 1) ((List.drop tt ns).take (ns.length - tt)) (RS.set_ (RS.slcB hP (by omega : tt ≤ ns.length) (by omega : ns.length ≤ ns.length)) rfl (by first | rfl | omega | (simp; done) | (simp; omega))) (by first | assumption | omega) (by simp; omega) (by simp only [List.length_append, List.length_take, List.length_drop, List.length_nil]; omega) (by simp only [List.length_append, List.length_take, List.length_drop, List.length_nil]; omega)) H183_ ?_)
        rintro v180_ p187_ w184_ ⟨junk181_, rfl, rfl, he182_⟩ S186_ H185_
        replace H185_ : Holds w184_ (ro R :: cl pw 255 [(Value.iface 95 (Value.pointer (some ⟨pg, 0, none⟩))), (Value.int .i64 (po144_ : Int)), (Value.int .i64 4096), (Value.int .i64 ((([] : List Int) ++ ((List.drop tt ns).take (ns.length - tt))).length : Int)), (Value.slice (some ⟨bb, 0, none⟩) 135168 135168), (Value.int .i64 131072)] :: cl bb 5 (bytesV (([] : List Int) ++ ((List.drop tt ns).take (ns.length - tt))) ++ junk181_) :: cl pg 97 [V165_] :: sl 5 1 V165_ (List.length ((os ++ pd) ++ ((List.drop 0 ns).take (tt - 0)))) (bytesV ((os ++ pd) ++ ((List.drop 0 ns).take (tt - 0)))) :: F) := H185_
        have S188_ := Same.trans S171_ S186_
        refine S_list (T_val (v := (Value.tuple #[(Value.int .i64 (((List.drop tt ns).take (ns.length - tt)).length : Int)), (Value.nilIface)])) (x_move rfl) ?_)
        refine S_list (T_val (v := (Value.int .i64 (((List.drop tt ns).take (ns.length - tt)).length : Int))) (by kernel_rfl) ?_)
        refine S_list (T_val (v := (Value.nilIface)) (by kernel_rfl) ?_)
        refine S_list (T_val (v := (Value.int .i64 (((List.drop tt ns).take (ns.length - tt)).length : Int))) (x_assign rfl) ?_)
        refine S_list (T_val (v := (Value.nilIface)) (x_assign rfl) ?_)
        refine wpList_nil ?_
        refine (X_then (hK176_ _ _ ?_))
        clear hK176_
        refine C_seq (fun K189_ hK189_ => ?_)
        refine C_reg ?_
        refine S_list (T_val (v := (Value.int .i64 (0 + (((List.drop 0 ns).take (tt - 0)).length : Int)))) (x_move rfl) ?_)
        refine S_list (T_val (v := (Value.int .i64 (((List.drop tt ns).take (ns.length - tt)).length : Int))) (x_move rfl) ?_)
        refine S_list (T_val (v := (Value.int .i64 ((0 + (((List.drop 0 ns).take (tt - 0)).length : Int)) + (((List.drop tt ns).take (ns.length - tt)).length : Int)))) (x_bin rfl rfl (ib_add (IntWalk.i64_in _ (by omega)))) ?_)
        refine S_list (T_val (v := (Value.int .i64 ((0 + (((List.drop 0 ns).take (tt - 0)).length : Int)) + (((List.drop tt ns).take (ns.length - tt)).length : Int)))) (x_assign rfl) ?_)
        refine wpList_nil ?_
        refine (X_then (hK189_ _ _ ?_))
        clear hK189_
        refine C_seq (fun K190_ hK190_ => ?_)
        refine C_reg ?_
        refine S_list (T_val (v := (Value.int .i64 ((0 + (((List.drop 0 ns).take (tt - 0)).length : Int)) + (((List.drop tt ns).take (ns.length - tt)).length : Int)))) (x_move rfl) ?_)
        refine S_list (T_val (v := (Value.nilIface)) (x_move rfl) ?_)
        refine S_list (T_val (v := (Value.int .i64 ((0 + (((List.drop 0 ns).take (tt - 0)).length : Int)) + (((List.drop tt ns).take (ns.length - tt)).length : Int)))) (x_assign rfl) ?_)
        refine S_list (T_val (v := (Value.nilIface)) (x_assign rfl) ?_)
        refine wpList_nil ?_
        refine (X_then (hK190_ _ _ ?_))
        clear hK190_
        refine C_ret ?_
        refine R_any (v := (Value.tuple #[(Value.int .i64 ((0 + (((List.drop 0 ns).take (tt - 0)).length : Int)) + (((List.drop tt ns).take (ns.length - tt)).length : Int))), (Value.nilIface)])) (run_results2 rfl rfl rfl) ?_
        exact ⟨_, [cl pw 255 [(Value.iface 95 (Value.pointer (some ⟨pg, 0, none⟩))), (Value.int .i64 (po144_ : Int)), (Value.int .i64 4096), (Value.int .i64 ((([] : List Int) ++ ((List.drop tt ns).take (ns.length - tt))).length : Int)), (Value.slice (some ⟨bb, 0, none⟩) 135168 135168), (Value.int .i64 131072)], cl bb 5 (bytesV (([] : List Int) ++ ((List.drop tt ns).take (ns.length - tt))) ++ junk181_), cl pg 97 [V165_], sl 5 1 V165_ (List.length ((os ++ pd) ++ ((List.drop 0 ns).take (tt - 0)))) (bytesV ((os ++ pd) ++ ((List.drop 0 ns).take (tt - 0))))], rfl, ⟨(0 + (((List.drop 0 ns).take (tt - 0)).length : Int)) + (((List.drop tt ns).take (ns.length - tt)).length : Int), po144_, (([] : List Int) ++ ((List.drop tt ns).take (ns.length - tt))), junk181_, V165_, ((os ++ pd) ++ ((List.drop 0 ns).take (tt - 0))), rfl, rfl, (by first | assumption | omega | exact rfl), (by first | assumption | (simp only [List.nil_append] at *; assumption)), (by simp only [List.nil_append, List.append_assoc, List.drop_zero, Nat.sub_zero, tk_all, tk_all2, List.take_append_drop]), (by simp only [List.nil_append, List.length_take, List.length_drop]; omega)⟩, S188_, H185_⟩
      · have c158_fp : ¬ (4096 < (ns.length : Int)) := of_decide_eq_false c158_f
        refine C_skip (X_then (hK156_ _ _ ?_))
        clear hK156_
        refine C_seq (fun K191_ hK191_ => ?_)
        refine C_reg ?_
        refine S_list (T_val (v := (Value.pointer (some ⟨pw, 0, none⟩))) (x_move rfl) ?_)
        refine S_list (T_val (v := p) (x_move rfl) ?_)
        have hl192_ := RS.blen hP
        have H193_ : Holds w149_ (ro R :: cl pw 255 [(Value.iface 95 (Value.pointer (some ⟨pg, 0, none⟩))), (Value.int .i64 (po144_ : Int)), (Value.int .i64 4096), (Value.int .i64 (([] : List Int).length : Int)), (Value.slice (some ⟨bb, 0, none⟩) 135168 135168), (Value.int .i64 131072)] :: cl bb 5 (bytesV [] ++ junk145_) :: cl pg 97 [V146_] :: sl 5 1 V146_ (List.length (os ++ pd)) (bytesV (os ++ pd)) :: F) := cast1 (P := fun (c__ : List Value) => Holds w149_ (ro R :: cl pw 255 c__ :: cl bb 5 (bytesV [] ++ junk145_) :: cl pg 97 [V146_] :: sl 5 1 V146_ (List.length (os ++ pd)) (bytesV (os ++ pd)) :: F)) ((lcons rfl (lcons rfl (lcons rfl (lcons (congrArg (Value.int .i64) ((by first | rfl | omega | (simp; done) | (simp; omega)) : 0 = (([] : List Int).length : Int))) rfl)))) : [(Value.iface 95 (Value.pointer (some ⟨pg, 0, none⟩))), (Value.int .i64 (po144_ : Int)), (Value.int .i64 4096), (Value.int .i64 0), (Value.slice (some ⟨bb, 0, none⟩) 135168 135168), (Value.int .i64 131072)] = [(Value.iface 95 (Value.pointer (some ⟨pg, 0, none⟩))), (Value.int .i64 (po144_ : Int)), (Value.int .i64 4096), (Value.int .i64 (([] : List Int).length : Int)), (Value.slice (some ⟨bb, 0, none⟩) 135168 135168), (Value.int .i64 131072)]) H150_
        have H194_ : Holds w149_ (ro R :: cl pw 255 [(Value.iface 95 (Value.pointer (some ⟨pg, 0, none⟩))), (Value.int .i64 (po144_ : Int)), (Value.int .i64 4096), (Value.int .i64 (([] : List Int).length : Int)), (Value.slice (some ⟨bb, 0, none⟩) 135168 135168), (Value.int .i64 131072)] :: cl bb 5 (bytesV ([] : List Int) ++ junk145_) :: cl pg 97 [V146_] :: sl 5 1 V146_ (List.length (os ++ pd)) (bytesV (os ++ pd)) :: F) := cast1 (P := fun (c__ : List Value) => Holds w149_ (ro R :: cl pw 255 [(Value.iface 95 (Value.pointer (some ⟨pg, 0, none⟩))), (Value.int .i64 (po144_ : Int)), (Value.int .i64 4096), (Value.int .i64 (([] : List Int).length : Int)), (Value.slice (some ⟨bb, 0, none⟩) 135168 135168), (Value.int .i64 131072)] :: cl bb 5 c__ :: cl pg 97 [V146_] :: sl 5 1 V146_ (List.length (os ++ pd)) (bytesV (os ++ pd)) :: F)) ((by first | rfl | omega | (simp; done) | (simp; omega)) : bytesV [] ++ junk145_ = bytesV ([] : List Int) ++ junk145_) H193_
        refine S_list (T_call (al := [(Value.pointer (some ⟨pw, 0, none⟩)), p]) (pre := [cl pw 255 [(Value.iface 95 (Value.pointer (some ⟨pg, 0, none⟩))), (Value.int .i64 (po144_ : Int)), (Value.int .i64 4096), (Value.int .i64 (([] : List Int).length : Int)), (Value.slice (some ⟨bb, 0, none⟩) 135168 135168), (Value.int .i64 131072)], cl bb 5 (bytesV ([] : List Int) ++ junk145_), cl pg 97 [V146_], sl 5 1 V146_ (List.length (os ++ pd)) (bytesV (os ++ pd))]) (F := F) rfl rfl cb166 (wWriteFit R pw bb pg po144_ ([] : List Int) junk145_ V146_ (os ++ pd) p ns hP (by first | assumption | omega) (by simp; omega) (by simp only [List.length_append, List.length_take, List.length_drop, List.length_nil]; omega) (by simp only [List.length_append, List.length_take, List.length_drop, List.length_nil]; omega)) H194_ ?_)
        rintro v195_ p201_ w198_ ⟨junk196_, rfl, rfl, he197_⟩ S200_ H199_
        replace H199_ : Holds w198_ (ro R :: cl pw 255 [(Value.iface 95 (Value.pointer (some ⟨pg, 0, none⟩))), (Value.int .i64 (po144_ : Int)), (Value.int .i64 4096), (Value.int .i64 ((([] : List Int) ++ ns).length : Int)), (Value.slice (some ⟨bb, 0, none⟩) 135168 135168), (Value.int .i64 131072)] :: cl bb 5 (bytesV (([] : List Int) ++ ns) ++ junk196_) :: cl pg 97 [V146_] :: sl 5 1 V146_ (List.length (os ++ pd)) (bytesV (os ++ pd)) :: F) := H199_
        have S202_ := Same.trans S153_ S200_
        refine S_list (T_val (v := (Value.tuple #[(Value.int .i64 (ns.length : Int)), (Value.nilIface)])) (x_move rfl) ?_)
        refine S_list (T_val (v := (Value.int .i64 (ns.length : Int))) (by kernel_rfl) ?_)
        refine S_list (T_val (v := (Value.nilIface)) (by kernel_rfl) ?_)
        refine S_list (T_val (v := (Value.int .i64 (ns.length : Int))) (x_assign rfl) ?_)
        refine S_list (T_val (v := (Value.nilIface)) (x_assign rfl) ?_)
        refine wpList_nil ?_
        refine (X_then (hK191_ _ _ ?_))
        clear hK191_
        refine C_seq (fun K203_ hK203_ => ?_)
        refine C_reg ?_
        refine S_list (T_val (v := (Value.int .i64 0)) (x_move rfl) ?_)
        refine S_list (T_val (v := (Value.int .i64 (ns.length : Int))) (x_move rfl) ?_)
        refine S_list (T_val (v := (Value.int .i64 (0 + (ns.length : Int)))) (x_bin rfl rfl (ib_add (IntWalk.i64_in _ (by omega)))) ?_)
        refine S_list (T_val (v := (Value.int .i64 (0 + (ns.length : Int)))) (x_assign rfl) ?_)
        refine wpList_nil ?_
        refine (X_then (hK203_ _ _ ?_))
        clear hK203_
        refine C_seq (fun K204_ hK204_ => ?_)
        refine C_reg ?_
        refine S_list (T_val (v := (Value.int .i64 (0 + (ns.length : Int)))) (x_move rfl) ?_)
        refine S_list (T_val (v := (Value.nilIface)) (x_move rfl) ?_)
        refine S_list (T_val (v := (Value.int .i64 (0 + (ns.length : Int)))) (x_assign rfl) ?_)
        refine S_list (T_val (v := (Value.nilIface)) (x_assign rfl) ?_)
        refine wpList_nil ?_
        refine (X_then (hK204_ _ _ ?_))
        clear hK204_
        refine C_ret ?_
        refine R_any (v := (Value.tuple #[(Value.int .i64 (0 + (ns.length : Int))), (Value.nilIface)])) (run_results2 rfl rfl rfl) ?_
        exact ⟨_, [cl pw 255 [(Value.iface 95 (Value.pointer (some ⟨pg, 0, none⟩))), (Value.int .i64 (po144_ : Int)), (Value.int .i64 4096), (Value.int .i64 ((([] : List Int) ++ ns).length : Int)), (Value.slice (some ⟨bb, 0, none⟩) 135168 135168), (Value.int .i64 131072)], cl bb 5 (bytesV (([] : List Int) ++ ns) ++ junk196_), cl pg 97 [V146_], sl 5 1 V146_ (List.length (os ++ pd)) (bytesV (os ++ pd))], rfl, ⟨0 + (ns.length : Int), po144_, (([] : List Int) ++ ns), junk196_, V146_, (os ++ pd), rfl, rfl, (by first | assumption | omega | exact rfl), (by first | assumption | (simp only [List.nil_append] at *; assumption)), (by simp only [List.nil_append, List.append_assoc, List.drop_zero, Nat.sub_zero, tk_all, tk_all2, List.take_append_drop]), (by simp only [List.nil_append, List.length_take, List.length_drop]; omega)⟩, S202_, H199_⟩
end Go.Proofs.Ytgeggiebefonhaa
